/-
  A part of the proof: What the bodies of some functions of the program come to, at heap level, each proved of the program itself. spec.hex, spec.quotedLine, spec.line, spec.Quoted: what is let in is a text in the encoding. spec.quotedLine, spec.Quoted. FnNextQuoted, the plain law: a header with the encoding, what reading makes of it with and without.
  Conditions: each contract's own.
-/
import Derived.Test.YtfajmapajpfocaaGreatDoorF4
import Derived.Test.YtfajmapajpfocaaGreatDoorF19
import Derived.Test.YtfajmapajpfocaaGreatDoorF20
import Derived.Test.YtfajmapajpfocaaGreatDoorF26
import Derived.Test.YtfajmapajpfocaaGreatDoorF31
import Derived.Test.YtfajmapajpfocaaGreatDoorF33
set_option linter.all false
namespace Go.Cps
open Go Go.Proofs
set_option maxRecDepth 100000
def c81 (a0 : Value) (H : Heap) (R : Value → Heap → Prop) : Prop :=
  Join (fun K1 =>
  Get (arithV .geq .u8 a0 (.int .u8 48)) fun x5 =>
  Br x5 (
  Get (arithV .leq .u8 a0 (.int .u8 57)) fun x8 =>
  Get (pickV (.bool true) x8 (.bool false)) fun x9 =>
  K1 [x9] H) (
  Get (pickV (.bool false) undef (.bool false)) fun x9_1 =>
  K1 [x9_1] H)) fun vs2 H =>
  Br (nth vs2 0) (
  Get (arithV .sub .u8 a0 (.int .u8 48)) fun x11 =>
  Get (intConvV .i64 x11) fun x12 =>
  R x12 H) (
  Join (fun K3 =>
  Get (arithV .geq .u8 a0 (.int .u8 65)) fun x15 =>
  Br x15 (
  Get (arithV .leq .u8 a0 (.int .u8 70)) fun x18 =>
  Get (pickV (.bool true) x18 (.bool false)) fun x19 =>
  K3 [x19] H) (
  Get (pickV (.bool false) undef (.bool false)) fun x19_1 =>
  K3 [x19_1] H)) fun vs4 H =>
  Br (nth vs4 0) (
  Get (arithV .sub .u8 a0 (.int .u8 65)) fun x21 =>
  Get (intConvV .i64 x21) fun x22 =>
  Get (arithV .add .i64 x22 (.int .i64 10)) fun x23 =>
  R x23 H) (
  R (.int .i64 (-1)) H))
def p81 : Plan := .seq (.leaf []) (.seq (.block (.join [3] (.leaf []) (.cond (.seq (.leaf []) (.leaf [])) (.join [13] (.leaf []) (.cond (.seq (.leaf []) (.leaf [])) (.leaf [])))))) (.seq (.leaf []) (.leaf [])))
theorem s81 {a0 : Value} {H : Heap} {R : Value → Heap → Prop} (h : c81 a0 H R) : CallsH Tryz.prog 81 #[a0] H R :=
  callsH_of_eq p81 (fn := Tryz.f81) (c := Tryz.f81.body.getD .skip) (args := [a0]) Tryz.func81 (by kernel_rfl) mixed (by kernel_rfl) (by kernel_rfl) (by kernel_rfl) h
end Go.Cps
namespace Go.Cps
open Go Go.Proofs
theorem append_ownS {k : Option Nat} {sl : Value} {l d : List UInt8} {H : Heap} {K : Value → Heap → Prop} (h : OwnB H k sl l) (hd0 : d ≠ []) (hl : l.length + d.length < 2 ^ 40)
    (hK : ∀ k' sl' H', OwnB H' k' sl' (l ++ d) → Frm k.toList H H' → (k' = k ∨ ∃ g, k' = some g ∧ H.size ≤ g) → K sl' H') : Append 5 1 1 #[.int .u8 0] sl (.string ⟨d.toArray⟩) H K := by
  have h2 : countV (.string ⟨d.toArray⟩) = some d.length := by
    show some (ByteArray.size ⟨d.toArray⟩) = _
    rw [bstr_size]
  have h1 : elemsV 1 d.length (.string ⟨d.toArray⟩) H = some (d.map byteV) := by
    simp only [elemsV]
    congr 1
    have e : (ByteArray.extract ⟨d.toArray⟩ 0 d.length).data = d.toArray := by
      rw [ByteArray.data_extract]
      show d.toArray.extract 0 d.length = d.toArray
      apply Array.ext'
      simp
    rw [e]
    simp [byteV]
  have hpos : 0 < d.length := List.length_pos_iff.2 hd0
  cases k with
  | none =>
    obtain ⟨rfl, rfl⟩ := h
    refine ⟨none, 0, 0, d.length, _, rfl, h2, h1, .inr ⟨by omega, by simp at hl; omega, by rw [nextcap0]; simp at hl; omega, [], rfl, fun c hc => ?_⟩⟩
    simp only [Nat.zero_add] at hc ⊢
    refine hK (some H.size) _ _ ⟨_, ?_, push_same _ _, ?_, ?_⟩ (Frm.push _ _ _) (.inr ⟨_, rfl, Nat.le_refl _⟩)
    · simp [zeros, Builtin.zeroCells]; omega
    · simp
    · simp
  | some g =>
    obtain ⟨cells, rfl, hg, ht, hle⟩ := h
    refine ⟨_, _, _, d.length, _, rfl, h2, h1, ?_⟩
    by_cases hroom : l.length + d.length ≤ cells.size
    · left
      refine ⟨hroom, ?_⟩
      have hst := stores_upd (d.map byteV) H g l.length 0 cells 5 hg (by simpa using hroom) (fun v hv => by
        obtain ⟨b, _, rfl⟩ := List.mem_map.1 hv; rfl)
      simp only [storeRow, Nat.mul_one, Q1, Nat.zero_add, hst, Q6, Nat.add_zero]
      refine hK (some g) _ _ ⟨putAt cells l.length (d.map byteV), ?_, upd_same (lt_of_some hg), putAt_take ht hroom, ?_⟩ (Frm.upd _ (by simp)) (.inl rfl)
      · simp
      · simpa using hroom
    · right
      have hlt : cells.size < l.length + d.length := by omega
      have hcap := nextslicecap_le hlt
      refine ⟨hlt, by omega, by omega, l.map byteV, ?_, fun c hc => ?_⟩
      · simp only [elemsV, Nat.mul_one]
        refine (cellsH_getElem _ _ _).2 ⟨by simp, fun j hj => ?_⟩
        rw [cellH_of hg, Nat.zero_add, Nat.zero_add]
        have : (cells.toList.take l.length)[j]? = (l.map byteV)[j]? := by rw [ht]
        rw [List.getElem?_take, if_pos hj] at this
        simpa using this
      · refine hK (some H.size) _ _ ⟨_, ?_, push_same _ _, ?_, ?_⟩ (Frm.push _ _ _) (.inr ⟨_, rfl, Nat.le_refl _⟩)
        · simp [zeros, Builtin.zeroCells]; omega
        · simp only [Array.toList_append, List.append_assoc, List.map_append, List.length_append]
          rw [← List.append_assoc, List.take_left' (by simp)]
        · simp
def hexI (c : UInt8) : Int := match hexv c with | some x => (x : Int) | none => -1
theorem hexS_ok {c : UInt8} {H : Heap} : CallsH Tryz.prog 81 #[byteV c] H fun v H' => v = .int .i64 (hexI c) ∧ H' = H := by
  have hlt := c.toNat_lt
  apply s81
  simp only [c81, byteV, Q0, Q1, Q2, Q3, Q4, Q5, Q6, Q7, Q8, Q9, Qa, Qb, Qc, Qd, Qe, Qf, Qg, Qh, Qi, Qj, Qk, Ql, Qm, Qn, Qo, Qp, Qq, Qr, Qs]
  unfold hexI hexv
  have w64 : ∀ n : Nat, n < 256 → IntKind.i64.wrap (n : Int) = n := fun n hn => wrap_i64 (by omega) (by omega)
  by_cases h1 : 48 ≤ c.toNat ∧ c.toNat ≤ 57
  · rw [if_pos h1]
    refine Join_direct ?_
    have d1 : decide (((c.toNat : Nat) : Int) ≥ 48) = true := by simp; omega
    have d2 : decide (((c.toNat : Nat) : Int) ≤ 57) = true := by simp; omega
    have e : IntKind.u8.wrap (((c.toNat : Nat) : Int) - 48) = ((c.toNat - 48 : Nat) : Int) := by rw [wrap_u8 (by omega) (by omega)]; omega
    simp only [d1, d2, Q0, Q1, Q2, Q3, Q4, Q5, Q6, Q7, Q8, Q9, Qa, Qb, Qc, Qd, Qe, Qf, Qg, Qh, Qi, Qj, e, if_true, Qs, w64 (c.toNat - 48) (by omega)]
    simp
  · rw [if_neg h1]
    refine ⟨fun vs H' => H' = H ∧ vs = [.bool false], ?_, ?_⟩
    · by_cases h2 : 48 ≤ c.toNat
      · have d1 : decide (((c.toNat : Nat) : Int) ≥ 48) = true := by simp; omega
        have d2 : decide (((c.toNat : Nat) : Int) ≤ 57) = false := by simp; omega
        simp only [d1, d2, Q0, Q1, Q2, Q3, Q4, Q5, Q6, Q7, Q8, Q9, Qa, Qb, Qc, Qd, Qe, Qf, Qg, Qh, Qi, Qj, if_true]
        simp
      · have d1 : decide (((c.toNat : Nat) : Int) ≥ 48) = false := by simp; omega
        simp only [d1, Q0, Q1, Q2, Q3, Q4, Q5, Q6, Q7, Q8, Q9, Qa, Qb, Qc, Qd, Qe, Qf, Qg, Qh, Qi, Qj, Bool.false_eq_true, if_false]
        simp
    · rintro _ H1 ⟨rfl, rfl⟩
      simp only [Q0, Q1, Q2, Q3, Q4, Q5, Q6, Q7, Q8, Q9, Qa, Qb, Qc, Qd, Qe, Qf, Qg, Qh, Qi, Qj]
      by_cases h2 : 65 ≤ c.toNat ∧ c.toNat ≤ 70
      · rw [if_pos h2]
        refine Join_direct ?_
        have d1 : decide (((c.toNat : Nat) : Int) ≥ 65) = true := by simp; omega
        have d2 : decide (((c.toNat : Nat) : Int) ≤ 70) = true := by simp; omega
        have e : IntKind.u8.wrap (((c.toNat : Nat) : Int) - 65) = ((c.toNat - 65 : Nat) : Int) := by rw [wrap_u8 (by omega) (by omega)]; omega
        have e2 : IntKind.i64.wrap (((c.toNat - 65 : Nat) : Int) + 10) = ((c.toNat - 55 : Nat) : Int) := by rw [wrap_i64 (by omega) (by omega)]; omega
        simp only [d1, d2, Q0, Q1, Q2, Q3, Q4, Q5, Q6, Q7, Q8, Q9, Qa, Qb, Qc, Qd, Qe, Qf, Qg, Qh, Qi, Qj, Qk, Ql, Qm, Qn, Qo, Qp, Qq, Qr, Qs, e, if_true, Qs, w64 (c.toNat - 65) (by omega), e2]
        simp
      · rw [if_neg h2]
        refine ⟨fun vs H' => H' = H1 ∧ vs = [.bool false], ?_, ?_⟩
        · by_cases h3 : 65 ≤ c.toNat
          · have d1 : decide (((c.toNat : Nat) : Int) ≥ 65) = true := by simp; omega
            have d2 : decide (((c.toNat : Nat) : Int) ≤ 70) = false := by simp; omega
            simp only [d1, d2, Q0, Q1, Q2, Q3, Q4, Q5, Q6, Q7, Q8, Q9, Qa, Qb, Qc, Qd, Qe, Qf, Qg, Qh, Qi, Qj, if_true]
            simp
          · have d1 : decide (((c.toNat : Nat) : Int) ≥ 65) = false := by simp; omega
            simp only [d1, Q0, Q1, Q2, Q3, Q4, Q5, Q6, Q7, Q8, Q9, Qa, Qb, Qc, Qd, Qe, Qf, Qg, Qh, Qi, Qj, Bool.false_eq_true, if_false]
            simp
        · rintro _ H2 ⟨rfl, rfl⟩
          simp only [Q0, Q1, Q2, Q3, Q4, Q5, Q6, Q7, Q8, Q9, Qa, Qb, Qc, Qd, Qe, Qf, Qg, Qh, Qi, Qj]
          exact ⟨trivial, trivial⟩
theorem specLine_ok {v : Value} {l : List UInt8} {H : Heap} (hv : IsBytes H v l) (hl : l.length < 2 ^ 39) :
    CallsH Tryz.prog 55 #[v] H fun x H' => ∃ (t : List UInt8) (y : Value) (m : Bool), x = .tuple #[strVal t, y, .bool m] ∧ Frm [] H H' ∧ (m = true → ∃ r, l = t ++ 13 :: 10 :: r ∧ IsBytes H' y r ∧ ∀ b, r ≠ [] → blk y = some b → blk v = some b) := by
  apply s55
  unfold c55
  refine lit2 (c := 13) (d := 10) fun H1 hl1 f1 z1 => ?_
  have hv1 := hv.frm f1 (by simp)
  refine (find_ok hv1 hl1 (by omega) (by simp)).mono ?_
  rintro x H2 ⟨rfl, hx⟩
  rcases hx with ⟨rfl, _⟩ | ⟨i, rfl, hf⟩
  · have hd : decide ((-1 : Int) < 0) = true := by decide
    simp only [Q0, Q1, Q2, Q3, Q4, Q5, Q6, Q7, Q8, Q9, Qa, Qb, Qc, Qd, Qe, Qf, Qg, Qh, Qi, Qj, Qk, Ql, Qm, Qn, Qo, Qp, Qq, Qr, Qs, hd]
    exact ⟨[], _, false, rfl, f1, by simp⟩
  · obtain ⟨g1, g2, _⟩ := hf
    have g1' : i + 2 ≤ l.length := by simpa using g1
    have hd : decide ((i : Int) < 0) = false := by simp
    have e1 : IntKind.i64.wrap ((i : Int) + 2) = ((i + 2 : Nat) : Int) := by rw [wrap_i64 (by omega) (by omega)]; omega
    have hsplit : l = l.take i ++ 13 :: 10 :: l.drop (i + 2) := by
      have h3 : (l.drop i) = (l.drop i).take 2 ++ (l.drop i).drop 2 := (List.take_append_drop _ _).symm
      have g2' : (l.drop i).take 2 = [13, 10] := g2
      rw [g2', List.drop_drop] at h3
      have h4 : l = l.take i ++ l.drop i := (List.take_append_drop _ _).symm
      rw [h3] at h4
      exact h4
    obtain ⟨y, hy, hyb, _, _⟩ := hv1.from (n := i + 2) (by omega) .i64
    rcases hv1 with ⟨b, o, c, rfl, hc, hcell⟩ | ⟨a, rfl, rfl⟩
    · have hsub := IsBytes.sub (lo := 0) (hi := i) (.inl ⟨b, o, c, rfl, hc, hcell⟩) (Nat.zero_le _) (by omega)
      have e6 : (if c = 0 then (⟨b, o, none⟩ : Addr) else ⟨b, o + 0, none⟩) = ⟨b, o, none⟩ := by split <;> rfl
      rw [e6] at hsub
      simp only [Nat.sub_zero, List.drop_zero] at hsub
      have hyk := sliceV_lo (a := some ⟨b, o, none⟩) (n := l.length) (c := c) (size := 1) (lo := i + 2) (by omega) .i64
      rw [hy] at hyk
      simp only [Q0, Q1, Q2, Q3, Q4, Q5, Q6, Q7, Q8, Q9, Qa, Qb, Qc, Qd, Qe, Qf, Qg, Qh, Qi, Qj, Qk, Ql, Qm, Qn, Qo, Qp, Qq, Qr, Qs, hd]
      rw [sliceV_hi (by omega), Q6]
      simp only [hsub.str, e1, hy, Q0, Q1, Q2, Q3, Q4, Q5, Q6, Q7, Q8, Q9, Qa, Qb, Qc, Qd, Qe, Qf, Qg, Qh, Qi, Qj]
      refine ⟨l.take i, y, true, rfl, f1, fun _ => ⟨l.drop (i + 2), hsplit, hyb, fun bb _ hb => ?_⟩⟩
      simp only [Option.some.injEq] at hyk
      rw [hyk] at hb
      rw [blk_slice] at hb ⊢
      split at hb <;> simpa using hb
    · simp at g1'
def QLine (l d : List UInt8) (soft : Bool) : Prop := l.length ≤ 76 ∧ ((soft = true ∧ ∃ p, l = p ++ [61] ∧ Tok p d ∧ Clean p) ∨ (soft = false ∧ ∃ p q, l = p ++ q ∧ Tok p d ∧ Blanks q ∧ Solid p ∧ Clean p))
structure Seen (l : List UInt8) (i : Nat) (o : List UInt8) (n : Nat) : Prop where
  le : i ≤ l.length
  ex : ∃ p q d, l.take i = p ++ q ∧ Tok p d ∧ Blanks q ∧ Solid p ∧ Clean p ∧ o = d ++ q ∧ q.length = n
theorem blanks_tok {q : List UInt8} (h : Blanks q) : Tok q q := by
  induction q with
  | nil => exact .nil
  | cons c r ih =>
    refine .lit c r r ?_ (ih fun x hx => h x (by simp [hx]))
    rcases h c (by simp) with rfl | rfl <;> (unfold okB; decide)
theorem Clean.app {p q : List UInt8} (hp : Clean p) (hq : Clean q) : Clean (p ++ q) := fun c hc => by
  rcases List.mem_append.1 hc with h | h
  · exact hp c h
  · exact hq c h
theorem solid_snoc {p : List UInt8} {c : UInt8} (h : qws c = false) : Solid (p ++ [c]) := fun d hd => by
  simp at hd; subst hd; exact h
theorem Seen.all {l o : List UInt8} {i n : Nat} (h : Seen l i o n) : Tok (l.take i) o ∧ Clean (l.take i) := by
  obtain ⟨p, q, d, h1, h2, h3, h4, h5, rfl, _⟩ := h.ex
  rw [h1]
  exact ⟨h2.app (blanks_tok h3), h5.app h3.clean⟩
theorem Seen.blank {l o : List UInt8} {i n : Nat} (h : Seen l i o n) (hi : i < l.length) (hb : l[i] = 32 ∨ l[i] = 9) : Seen l (i + 1) (o ++ [l[i]]) (n + 1) := by
  obtain ⟨p, q, d, h1, h2, h3, h4, h5, rfl, h6⟩ := h.ex
  refine ⟨hi, p, q ++ [l[i]], d, ?_, h2, ?_, h4, h5, by simp, by simp [h6]⟩
  · rw [List.take_succ_eq_append_getElem hi, h1, List.append_assoc]
  · intro c hc
    rcases List.mem_append.1 hc with h | h
    · exact h3 c h
    · simp at h; subst h; exact hb
theorem Seen.lit {l o : List UInt8} {i n : Nat} (h : Seen l i o n) (hi : i < l.length) (h32 : 32 < l[i].toNat) (h126 : l[i].toNat ≤ 126) (h61 : l[i] ≠ 61) : Seen l (i + 1) (o ++ [l[i]]) 0 := by
  obtain ⟨ht, hc⟩ := h.all
  have hn : ∀ k : Nat, k < 33 → l[i] ≠ UInt8.ofNat k := fun k hk e => by
    have : l[i].toNat = k := by rw [e]; simp; omega
    omega
  refine ⟨hi, l.take i ++ [l[i]], [], o ++ [l[i]], ?_, ht.app (.lit _ _ _ ⟨h61, .inr (.inr (.inr ⟨by omega, h126⟩))⟩ .nil), by intro c hc; simp at hc, solid_snoc ?_, hc.app ?_, by simp, rfl⟩
  · rw [List.take_succ_eq_append_getElem hi]; simp
  · unfold qws
    have h10 : (l[i] == 10) = false := by rw [beq_eq_false_iff_ne]; exact hn 10 (by omega)
    have h13 : (l[i] == 13) = false := by rw [beq_eq_false_iff_ne]; exact hn 13 (by omega)
    have h32 : (l[i] == 32) = false := by rw [beq_eq_false_iff_ne]; exact hn 32 (by omega)
    have h9 : (l[i] == 9) = false := by rw [beq_eq_false_iff_ne]; exact hn 9 (by omega)
    rw [h10, h13, h32, h9]; rfl
  · intro c hc
    simp at hc; subst hc
    exact ⟨hn 10 (by omega), hn 13 (by omega)⟩
theorem hexv_qws {c : UInt8} {x : Nat} (h : hexv c = some x) : qws c = false := by
  obtain ⟨h1, h2, h3, h4, h5, _⟩ := hexv_ne h
  unfold qws
  have g10 : (c == 10) = false := by rw [beq_eq_false_iff_ne]; exact h2
  have g13 : (c == 13) = false := by rw [beq_eq_false_iff_ne]; exact h3
  have g32 : (c == 32) = false := by rw [beq_eq_false_iff_ne]; exact h4
  have g9 : (c == 9) = false := by rw [beq_eq_false_iff_ne]; exact h5
  rw [g10, g13, g32, g9]; rfl
theorem Seen.esc {l o : List UInt8} {i n x y : Nat} (h : Seen l i o n) (hi : i + 2 < l.length) (h61 : l[i] = 61) (hx : hexv l[i + 1] = some x) (hy : hexv l[i + 2] = some y) : Seen l (i + 3) (o ++ [UInt8.ofNat (x * 16 + y)]) 0 := by
  obtain ⟨ht, hc⟩ := h.all
  have e3 : l.take (i + 3) = l.take i ++ [61, l[i + 1], l[i + 2]] := by
    rw [List.take_succ_eq_append_getElem (show i + 2 < l.length by omega), List.take_succ_eq_append_getElem (show i + 1 < l.length by omega), List.take_succ_eq_append_getElem (show i < l.length by omega), h61]
    simp
  have n1 := hexv_ne hx
  have n2 := hexv_ne hy
  refine ⟨by omega, l.take i ++ [61, l[i + 1], l[i + 2]], [], o ++ [UInt8.ofNat (x * 16 + y)], by rw [e3]; simp, ht.app (.esc _ _ x y _ _ hx hy .nil), by intro c hc; simp at hc, ?_, hc.app ?_, by simp, rfl⟩
  · have := solid_snoc (p := l.take i ++ [61, l[i + 1]]) (hexv_qws hy)
    simpa using this
  · intro c hc
    simp only [List.mem_cons, List.not_mem_nil, or_false] at hc
    rcases hc with rfl | rfl | rfl
    · decide
    · exact ⟨n1.2.1, n1.2.2.1⟩
    · exact ⟨n2.2.1, n2.2.2.1⟩
end Go.Cps
namespace Go.Cps
open Go Go.Proofs
theorem OwnB.shape {H : Heap} {k : Option Nat} {sl : Value} {o : List UInt8} (h : OwnB H k sl o) : ∃ a c, sl = .slice a o.length c ∧ o.length ≤ c ∧ ∀ m, m ≤ o.length → IsBytes H (.slice a m c) (o.take m) := by
  have hb := h.bytes
  cases k with
  | none =>
    obtain ⟨rfl, rfl⟩ := h
    refine ⟨none, 0, rfl, Nat.le_refl _, fun m hm => ?_⟩
    have : m = 0 := by simpa using hm
    subst this
    exact .inr ⟨none, rfl, rfl⟩
  | some g =>
    obtain ⟨cells, rfl, hg, ht, hle⟩ := h
    refine ⟨some ⟨g, 0, none⟩, cells.size, rfl, hle, fun m hm => ?_⟩
    have hs := hb.sub (lo := 0) (hi := m) (Nat.zero_le _) hm
    have e6 : (if cells.size = 0 then (⟨g, 0, none⟩ : Addr) else ⟨g, 0 + 0, none⟩) = ⟨g, 0, none⟩ := by split <;> rfl
    rw [e6] at hs
    simpa using hs
theorem Tok.le {p d : List UInt8} (h : Tok p d) : d.length ≤ p.length := by
  induction h with
  | nil => simp
  | lit c r d _ _ ih => simp; omega
  | esc a b x y r d _ _ _ ih => simp; omega
theorem Seen.bound {l o : List UInt8} {i n : Nat} (h : Seen l i o n) : n ≤ o.length ∧ o.length ≤ i := by
  obtain ⟨p, q, d, h1, h2, h3, h4, h5, rfl, h6⟩ := h.ex
  have h7 := h2.le
  have h8 := congrArg List.length h1
  have := h.le
  simp only [List.length_take, List.length_append] at h8 ⊢
  omega
theorem hexI_neg {c : UInt8} : decide (hexI c < 0) = (hexv c).isNone := by
  unfold hexI
  cases h : hexv c with
  | none => rfl
  | some x => simp
theorem quotedLine_ok {l : List UInt8} {H : Heap} (hl : l.length < 2 ^ 38) :
    CallsH Tryz.prog 56 #[strVal l] H fun x H' => ∃ (v : Value) (d : List UInt8) (soft ok : Bool), x = .tuple #[v, .bool soft, .bool ok] ∧ Frm [] H H' ∧ (ok = true → IsBytes H' v d ∧ QLine l d soft) := by
  apply s56
  unfold c56
  refine ⟨fun μ vs H1 => ∃ (i n : Nat) (k : Option Nat) (out : Value) (o : List UInt8), vs = [out, .int .i64 n, .int .i64 i] ∧ μ = l.length - i ∧ OwnB H1 k out o ∧ Seen l i o n ∧ Frm [] H H1 ∧ (∀ g, k = some g → H.size ≤ g),
    ⟨_, 0, 0, none, _, [], rfl, rfl, ⟨rfl, rfl⟩, ⟨Nat.zero_le _, [], [], [], rfl, .nil, fun c hc => (by simp at hc), fun c hc => (by simp at hc), fun c hc => (by simp at hc), rfl, rfl⟩, Frm.refl _ _, by simp⟩, ?_⟩
  rintro μ vs H1 ⟨i, n, k, out, o, rfl, rfl, hown, hs, f1, hk⟩
  have hil := hs.le
  obtain ⟨hno, hoi⟩ := hs.bound
  simp only [lenStr_of, Q0, Q1, Q2, Q3, Q4, Q5, Q6, Q7, Q8, Q9, Qa, Qb, Qc, Qd, Qe, Qf, Qg, Qh, Qi, Qj, Qk, Ql, Qm, Qn, Qo, Qp, Qq, Qr, Qs, dec_lt]
  have dle : ∀ a : Nat, decide ((a : Int) ≤ 76) = decide (a ≤ 76) := fun a => by
    rw [Bool.eq_iff_iff, decide_eq_true_eq, decide_eq_true_eq]; omega
  refine Br_intro (fun hlt => ?_) (fun hlt => ?_)
  · have hlt' : i < l.length := by simpa using hlt
    have hi1 : IntKind.i64.wrap ((i : Int) + 1) = ((i + 1 : Nat) : Int) := inc_i64 (by omega)
    have hi2 : IntKind.i64.wrap ((i : Int) + 2) = ((i + 2 : Nat) : Int) := by rw [wrap_i64 (by omega) (by omega)]; omega
    have hl1 : IntKind.i64.wrap ((l.length : Int) - 1) = ((l.length - 1 : Nat) : Int) := by rw [wrap_i64 (by omega) (by omega)]; omega
    have e61 : (((l[i].toNat : Nat) : Int) == 61) = (l[i] == 61) := byte_beq l[i] 61
    have e32 : (((l[i].toNat : Nat) : Int) == 32) = (l[i] == 32) := byte_beq l[i] 32
    have e9 : (((l[i].toNat : Nat) : Int) == 9) = (l[i] == 9) := byte_beq l[i] 9
    have f1k : ∀ {k' : Option Nat} {H2 : Heap}, Frm k.toList H1 H2 → (k' = k ∨ ∃ g, k' = some g ∧ H1.size ≤ g) → Frm [] H H2 ∧ ∀ g, k' = some g → H.size ≤ g := fun {k' H2} f hk' => by
      refine ⟨f1.up f (fun x hx => .inr (hk x (by simpa using hx))), fun g hg => ?_⟩
      rcases hk' with h | ⟨g', h, hge⟩
      · exact hk g (by rw [← h, hg])
      · rw [hg] at h; cases h; have := f1.size; omega
    refine ⟨fun vs H2 => ∃ (i' n' : Nat) (k' : Option Nat) (out' : Value) (o' : List UInt8), vs = [out', .int .i64 n', .int .i64 i'] ∧ i ≤ i' ∧ i' < l.length ∧ OwnB H2 k' out' o' ∧ Seen l (i' + 1) o' n' ∧ Frm [] H H2 ∧ (∀ g, k' = some g → H.size ≤ g), ?_, ?_⟩
    · refine Get_of (strIndex_of hlt') ?_
      refine ⟨fun vs H2 => H2 = H1 ∧ vs = [.bool (l[i] == 61 && i == l.length - 1)], ?_, ?_⟩
      · have ee : (((i : Nat) : Int) == ((l.length - 1 : Nat) : Int)) = (i == l.length - 1) := by
          rw [Bool.eq_iff_iff, beq_iff_eq, beq_iff_eq]; omega
        simp only [byteV, Q0, Q1, Q2, Q3, Q4, Q5, Q6, Q7, Q8, Q9, Qa, Qb, Qc, Qd, Qe, Qf, Qg, Qh, Qi, Qj, Qk, Ql, Qm, Qn, Qo, Qp, Qq, Qr, Qs, e61, lenStr_of, hl1, ee]
        refine Br_intro (fun hh => ?_) (fun hh => ?_) <;> simp [hh]
      · rintro _ H2 ⟨rfl, rfl⟩
        simp only [Q9]
        refine Br_intro (fun hh => ?_) (fun hh => ?_)
        · -- a soft line break
          simp only [Bool.and_eq_true, beq_iff_eq] at hh
          obtain ⟨h61, hie⟩ := hh
          simp only [lenStr_of, Q0, Q1, Q2, Q3, Q4, Q5, Q6, Q7, Q8, Q9, Qa, Qb, Qc, Qd, Qe, Qf, Qg, Qh, Qi, Qj, Qk, Ql, Qm, Qn, Qo, Qp, Qq, Qr, Qs, dle]
          refine ⟨out, o, true, decide (l.length ≤ 76), rfl, f1, fun hok => ⟨hown.bytes, by simpa using hok, .inl ⟨rfl, l.take i, ?_, hs.all.1, hs.all.2⟩⟩⟩
          have h1 := List.take_succ_eq_append_getElem hlt'
          rw [h61] at h1
          rw [← h1, List.take_of_length_le (by omega)]
        · simp only [byteV, Qk, Ql, Qm, Qn, Qo, Qp, Qq, Qr, Qs, e61, Q0, Q1, Q2, Q3, Q4, Q5, Q6, Q7, Q8, Q9, Qa, Qb, Qc, Qd, Qe, Qf, Qg, Qh, Qi, Qj]
          refine Br_intro (fun h61 => ?_) (fun h61 => ?_)
          · have h61' : l[i] = 61 := by simpa using h61
            refine ⟨fun vs H3 => H3 = H2 ∧ ∃ b : Bool, vs = [.bool b] ∧ (b = false → ∃ (x y : Nat) (h : i + 2 < l.length), hexv l[i + 1] = some x ∧ hexv l[i + 2] = some y), ?_, ?_⟩
            · have dge : decide (((i + 2 : Nat) : Int) ≥ ((l.length : Nat) : Int)) = decide (l.length ≤ i + 2) := by
                rw [Bool.eq_iff_iff, decide_eq_true_eq, decide_eq_true_eq]; omega
              simp only [hi1, hi2, lenStr_of, Q0, Q1, Q2, Q3, Q4, Q5, Q6, Q7, Q8, Q9, Qa, Qb, Qc, Qd, Qe, Qf, Qg, Qh, Qi, Qj, Qk, Ql, Qm, Qn, Qo, Qp, Qq, Qr, Qs, dge]
              refine Br_intro (fun h2 => ?_) (fun h2 => ?_)
              · simp
              · have h2' : i + 2 < l.length := by simp at h2; omega
                rw [strIndex_of (show i + 1 < l.length by omega), Q6]
                refine hexS_ok.mono ?_
                rintro v H3 ⟨rfl, rfl⟩
                simp only [Q0, Q1, Q2, Q3, Q4, Q5, Q6, Q7, Q8, Q9, Qa, Qb, Qc, Qd, Qe, Qf, Qg, Qh, Qi, Qj, Qk, Ql, Qm, Qn, Qo, Qp, Qq, Qr, Qs, hexI_neg, Bool.false_eq_true, if_false]
                refine Br_intro (fun h3 => ?_) (fun h3 => ?_)
                · simp
                · rw [strIndex_of h2', Q6]
                  refine hexS_ok.mono ?_
                  rintro v H4 ⟨rfl, rfl⟩
                  simp only [Q0, Q1, Q2, Q3, Q4, Q5, Q6, Q7, Q8, Q9, Qa, Qb, Qc, Qd, Qe, Qf, Qg, Qh, Qi, Qj, Qk, Ql, Qm, Qn, Qo, Qp, Qq, Qr, Qs, hexI_neg, Bool.false_eq_true, if_false]
                  refine ⟨trivial, _, rfl, fun h4 => ?_⟩
                  obtain ⟨x, hx⟩ := Option.isSome_iff_exists.1 (show (hexv l[i + 1]).isSome = true by cases hh : hexv l[i + 1] <;> simp [hh] at h3 ⊢)
                  obtain ⟨y, hy⟩ := Option.isSome_iff_exists.1 (show (hexv l[i + 2]).isSome = true by cases hh : hexv l[i + 2] <;> simp [hh] at h4 ⊢)
                  exact ⟨x, y, h2', hx, hy⟩
            · rintro _ H3 ⟨rfl, b, rfl, hb⟩
              simp only [Q9]
              refine Br_intro (fun h3 => ?_) (fun h3 => ?_)
              · exact ⟨_, [], false, false, rfl, f1, by simp⟩
              · obtain ⟨x, y, h2', hx, hy⟩ := hb h3
                have hxl := hexv_lt hx
                have hyl := hexv_lt hy
                have ex : hexI l[i + 1] = (x : Int) := by simp [hexI, hx]
                have ey : hexI l[i + 2] = (y : Int) := by simp [hexI, hy]
                have em : IntKind.i64.wrap ((x : Int) * 16) = ((x * 16 : Nat) : Int) := by rw [wrap_i64 (by omega) (by omega)]; omega
                have ea : IntKind.i64.wrap (((x * 16 : Nat) : Int) + (y : Int)) = ((x * 16 + y : Nat) : Int) := by rw [wrap_i64 (by omega) (by omega)]; omega
                have ec : intConvV .u8 (.int .i64 ((x * 16 + y : Nat) : Int)) = some (byteV (UInt8.ofNat (x * 16 + y))) := by
                  have h4 : (UInt8.ofNat (x * 16 + y)).toNat = x * 16 + y := by simp; omega
                  rw [Qs, byteV, h4, wrap_u8 (by omega) (by omega)]
                simp only [hi1, Q0, Q1, Q2, Q3, Q4, Q5, Q6, Q7, Q8, Q9, Qa, Qb, Qc, Qd, Qe, Qf, Qg, Qh, Qi, Qj, Qk, Ql, Qm, Qn, Qo, Qp, Qq, Qr, Qs]
                rw [strIndex_of (show i + 1 < l.length by omega), Q6]
                refine hexS_ok.mono ?_
                rintro v H4 ⟨rfl, rfl⟩
                simp only [ex, Q0, Q1, Q2, Q3, Q4, Q5, Q6, Q7, Q8, Q9, Qa, Qb, Qc, Qd, Qe, Qf, Qg, Qh, Qi, Qj, Qk, Ql, Qm, Qn, Qo, Qp, Qq, Qr, Qs, arithV_mul, em, hi2]
                rw [strIndex_of h2', Q6]
                refine hexS_ok.mono ?_
                rintro v H5 ⟨rfl, rfl⟩
                simp only [ey, Q0, Q1, Q2, Q3, Q4, Q5, Q6, Q7, Q8, Q9, Qa, Qb, Qc, Qd, Qe, Qf, Qg, Qh, Qi, Qj, Qk, Ql, Qm, Qn, Qo, Qp, Qq, Qr, Qs, ea, ec]
                refine appByte (b := UInt8.ofNat (x * 16 + y)) hown (by omega) fun k' sl' H6 ho' f6 hk' => ?_
                obtain ⟨f6', hk6⟩ := f1k f6 hk'
                exact ⟨i + 2, 0, k', sl', _, rfl, by omega, h2', ho', hs.esc h2' h61' hx hy, f6', hk6⟩
          · have h61' : l[i] ≠ 61 := by simpa using h61
            refine ⟨fun vs H3 => H3 = H2 ∧ vs = [.bool (l[i] == 32 || l[i] == 9)], ?_, ?_⟩
            · simp only [e32, e9, Q0, Q1, Q2, Q3, Q4, Q5, Q6, Q7, Q8, Q9, Qa, Qb, Qc, Qd, Qe, Qf, Qg, Qh, Qi, Qj, Qk, Ql, Qm, Qn, Qo, Qp, Qq, Qr, Qs]
              refine Br_intro (fun hh => ?_) (fun hh => ?_) <;> simp [hh]
            · rintro _ H3 ⟨rfl, rfl⟩
              simp only [Q9]
              refine Br_intro (fun h3 => ?_) (fun h3 => ?_)
              · have h3' : l[i] = 32 ∨ l[i] = 9 := by simpa using h3
                refine appByte (b := l[i]) hown (by omega) fun k' sl' H6 ho' f6 hk' => ?_
                have hn1 : IntKind.i64.wrap ((n : Int) + 1) = ((n + 1 : Nat) : Int) := inc_i64 (by omega)
                simp only [Q0, Q1, Q2, Q3, Q4, Q5, Q6, Q7, Q8, Q9, Qa, Qb, Qc, Qd, Qe, Qf, Qg, Qh, Qi, Qj, Qk, Ql, Qm, Qn, Qo, Qp, Qq, Qr, Qs, hn1]
                obtain ⟨f6', hk6⟩ := f1k f6 hk'
                exact ⟨i, n + 1, k', sl', _, rfl, Nat.le_refl _, hlt', ho', hs.blank hlt' h3', f6', hk6⟩
              · refine ⟨fun vs H4 => H4 = H3 ∧ vs = [.bool (decide (32 < l[i].toNat) && decide (l[i].toNat ≤ 126))], ?_, ?_⟩
                · have d1 : decide (((l[i].toNat : Nat) : Int) > 32) = decide (32 < l[i].toNat) := by
                    rw [Bool.eq_iff_iff, decide_eq_true_eq, decide_eq_true_eq]; omega
                  have d2 : decide (((l[i].toNat : Nat) : Int) ≤ 126) = decide (l[i].toNat ≤ 126) := by
                    rw [Bool.eq_iff_iff, decide_eq_true_eq, decide_eq_true_eq]; omega
                  simp only [Q0, Q1, Q2, Q3, Q4, Q5, Q6, Q7, Q8, Q9, Qa, Qb, Qc, Qd, Qe, Qf, Qg, Qh, Qi, Qj, Qk, Ql, Qm, Qn, Qo, Qp, Qq, Qr, Qs, d1, d2]
                  refine Br_intro (fun hh => ?_) (fun hh => ?_) <;> simp [hh]
                · rintro _ H4 ⟨rfl, rfl⟩
                  simp only [Q9]
                  refine Br_intro (fun h4 => ?_) (fun h4 => ?_)
                  · have h4' : 32 < l[i].toNat ∧ l[i].toNat ≤ 126 := by simpa using h4
                    refine appByte (b := l[i]) hown (by omega) fun k' sl' H6 ho' f6 hk' => ?_
                    obtain ⟨f6', hk6⟩ := f1k f6 hk'
                    exact ⟨i, 0, k', sl', _, rfl, Nat.le_refl _, hlt', ho', hs.lit hlt' h4'.1 h4'.2 h61', f6', hk6⟩
                  · exact ⟨_, [], false, false, rfl, f1, by simp⟩
    · rintro _ H2 ⟨i', n', k', out', o', rfl, hle, hlt2, ho', hs', f2, hk'⟩
      have hi' : IntKind.i64.wrap ((i' : Int) + 1) = ((i' + 1 : Nat) : Int) := inc_i64 (by omega)
      simp only [Q0, Q1, Q2, Q3, Q4, Q5, Q6, Q7, Q8, Q9, Qa, Qb, Qc, Qd, Qe, Qf, Qg, Qh, Qi, Qj, Qk, Ql, Qm, Qn, Qo, Qp, Qq, Qr, Qs, hi']
      exact ⟨_, by omega, i' + 1, n', k', out', o', rfl, rfl, ho', hs', f2, hk'⟩
  · have hie : i = l.length := by simp at hlt; omega
    subst hie
    obtain ⟨a, c, rfl, hoc, hsub⟩ := hown.shape
    have e1 : IntKind.i64.wrap ((o.length : Int) - (n : Int)) = ((o.length - n : Nat) : Int) := by rw [wrap_i64 (by omega) (by omega)]; omega
    simp only [Q0, Q1, Q2, Q3, Q4, Q5, Q6, Q7, Q8, Q9, Qa, Qb, Qc, Qd, Qe, Qf, Qg, Qh, Qi, Qj, Qk, Ql, Qm, Qn, Qo, Qp, Qq, Qr, Qs, e1]
    rw [sliceV_hi (by omega), Q6]
    simp only [lenStr_of, Q0, Q1, Q2, Q3, Q4, Q5, Q6, Q7, Q8, Q9, Qa, Qb, Qc, Qd, Qe, Qf, Qg, Qh, Qi, Qj, Qk, Ql, Qm, Qn, Qo, Qp, Qq, Qr, Qs, dle]
    obtain ⟨p, q, d, h1, h2, h3, h4, h5, h6, h7⟩ := hs.ex
    rw [List.take_length] at h1
    refine ⟨_, d, false, decide (l.length ≤ 76), rfl, f1, fun hok => ⟨?_, by simpa using hok, .inr ⟨rfl, p, q, h1, h2, h3, h4, h5⟩⟩⟩
    have hs' := hsub (o.length - n) (by omega)
    have : o.take (o.length - n) = d := by
      have e2 : o.length - n = d.length := by rw [h6, List.length_append]; omega
      rw [e2, h6, List.take_left]
    rwa [this] at hs'
theorem quoted_ok {v : Value} {l : List UInt8} {H : Heap} (hv : IsBytes H v l) (hvb : l ≠ [] → ∀ x, blk v = some x → x < H.size) (hl : l.length < 2 ^ 37) :
    CallsH Tryz.prog 23 #[v] H fun x H' => ∃ (y : Value) (D : List UInt8) (ok : Bool), x = .tuple #[y, .bool ok] ∧ Frm [] H H' ∧ (ok = true → QText l D ∧ ∃ k, OwnB H' k y D ∧ ∀ g, k = some g → H.size ≤ g) := by
  apply s23
  unfold c23
  refine ⟨fun μ vs H1 => ∃ (u : Value) (r : List UInt8) (k : Option Nat) (out : Value) (o : List UInt8), vs = [u, out] ∧ μ = r.length ∧ r.length + o.length ≤ l.length ∧ IsBytes H1 u r ∧ (r ≠ [] → ∀ x, blk u = some x → x < H.size) ∧ OwnB H1 k out o ∧ Frm [] H H1 ∧ (∀ g, k = some g → H.size ≤ g) ∧ (∀ D, QText r D → QText l (o ++ D)),
    ⟨_, v, l, none, _, [], rfl, rfl, by simp, hv, hvb, ⟨rfl, rfl⟩, Frm.refl _ _, by simp, fun D h => h⟩, ?_⟩
  rintro μ vs H1 ⟨u, r, k, out, o, rfl, rfl, hro, hu, hub, hown, f1, hk, hq⟩
  simp only [Q0, Q1, Q2, Q3, Q4, Q5, Q6, Q7, Q8, Q9, Qa, Qb, Qc, Qd, Qe, Qf, Qg, Qh, Qi, Qj]
  refine (specLine_ok hu (by omega)).mono ?_
  rintro x H2 ⟨t, y, m, rfl, f2, hm⟩
  have hu2 := hu.frm f2 (by simp)
  have hown2 := hown.frm f2 (by simp)
  have f12 := f1.trans f2
  simp only [Q0, Q1, Q2, Q3, Q4, Q5, Q6, Q7, Q8, Q9, Qa, Qb, Qc, Qd, Qe, Qf, Qg, Qh, Qi, Qj]
  -- the line: what is ahead of the break, or all that is left
  have hline : ∃ ln : List UInt8, ln.length ≤ r.length ∧ (m = false → ln = r) ∧ (m = true → ∃ r', r = ln ++ 13 :: 10 :: r' ∧ IsBytes H2 y r' ∧ ∀ b, r' ≠ [] → blk y = some b → blk u = some b) ∧ (m = true → ln = t) := by
    cases m with
    | true =>
      obtain ⟨r', g1, g2, g3⟩ := hm rfl
      exact ⟨t, by rw [g1]; simp, by simp, fun _ => ⟨r', g1, g2, g3⟩, fun _ => rfl⟩
    | false => exact ⟨r, Nat.le_refl _, fun _ => rfl, by simp, by simp⟩
  obtain ⟨ln, hln, hlf, hlt, hlt2⟩ := hline
  refine ⟨fun vs H3 => H3 = H2 ∧ vs = [strVal ln], ?_, ?_⟩
  · refine Br_intro (fun hh => ?_) (fun hh => ?_)
    · have hm0 : m = false := by simpa using hh
      simp only [hu2.str, Q0, Q1, Q2, Q3, Q4, Q5, Q6, Q7, Q8, Q9, Qa, Qb, Qc, Qd, Qe, Qf, Qg, Qh, Qi, Qj]
      exact ⟨trivial, by rw [hlf hm0]; rfl⟩
    · have hm1 : m = true := by simpa using hh
      exact ⟨rfl, by rw [hlt2 hm1]⟩
  rintro _ H3 ⟨rfl, rfl⟩
  simp only [Q9]
  refine (quotedLine_ok (l := ln) (by omega)).mono ?_
  rintro x H4 ⟨w, d, soft, ok, rfl, f4, hok⟩
  have hown4 := hown2.frm f4 (by simp)
  have f14 := f12.trans f4
  simp only [Q0, Q1, Q2, Q3, Q4, Q5, Q6, Q7, Q8, Q9, Qa, Qb, Qc, Qd, Qe, Qf, Qg, Qh, Qi, Qj]
  refine ⟨fun vs H5 => H5 = H4 ∧ vs = [.bool (!ok || soft && !m)], ?_, ?_⟩
  · cases ok <;> cases soft <;> cases m <;> simp only [Q0, Q1, Q2, Q3, Q4, Q5, Q6, Q7, Q8, Q9, Qa, Qb, Qc, Qd, Qe, Qf, Qg, Qh, Qi, Qj, Bool.not_true, Bool.not_false, Bool.and_true, Bool.and_false, Bool.or_true, Bool.or_false, Bool.false_eq_true, if_true, if_false, and_self, Bool.true_and, Bool.false_and]
  rintro _ H5 ⟨rfl, rfl⟩
  simp only [Q9]
  refine Br_intro (fun hh => ?_) (fun hh => ?_)
  · exact ⟨_, [], false, rfl, f14, by simp⟩
  · have hok1 : ok = true := by cases ok <;> simp at hh ⊢
    subst hok1
    obtain ⟨hw, hl76, hcase⟩ := hok rfl
    have hdl : d.length ≤ ln.length := by
      rcases hcase with ⟨_, p, e, ht, _⟩ | ⟨_, p, q, e, ht, _⟩
      · have := ht.le; rw [e]; simp; omega
      · have := ht.le; rw [e]; simp; omega
    refine append_own hown4 hw (by omega) fun k6 sl6 H6 hown6 f6 hk6 => ?_
    have f16 : Frm [] H H6 := f14.up f6 (fun x hx => .inr (hk x (by simpa using hx)))
    have hk6' : ∀ g, k6 = some g → H.size ≤ g := fun g hg => by
      rcases hk6 with h | ⟨g', h, hge⟩
      · exact hk g (by rw [← h, hg])
      · rw [hg] at h; cases h; have := f14.size; omega
    refine Br_intro (fun hm0 => ?_) (fun hm1 => ?_)
    · have hmf : m = false := by simpa using hm0
      subst hmf
      have hlr := hlf rfl
      subst hlr
      refine ⟨_, o ++ d, true, rfl, f16, fun _ => ⟨hq d ?_, k6, hown6, hk6'⟩⟩
      rcases hcase with ⟨hs, _⟩ | ⟨_, p, q, e, ht, hb, hso, hc⟩
      · subst hs; simp at hh
      · rw [e]
        exact .last p q d ht hb hso hc (by rw [← e]; exact hl76)
    · have hmt : m = true := by simpa using hm1
      subst hmt
      obtain ⟨r', hr', hyb, hyk⟩ := hlt rfl
      have hyB : r' ≠ [] → ∀ x, blk y = some x → x < H.size := fun hne x hx => hub (by rw [hr']; simp) x (hyk x hne hx)
      have hyb6 : IsBytes H6 y r' := (hyb.frm f4 (by simp)).frm' f6 (fun hne b hb hm => by
        have h1 := hyB hne b hb
        have h2 := hk b (by simpa using hm)
        omega)
      have hrl : r.length = ln.length + 2 + r'.length := by rw [hr']; simp; omega
      refine ⟨fun vs H7 => ∃ (k7 : Option Nat) (sl7 : Value) (o7 : List UInt8), vs = [sl7] ∧ OwnB H7 k7 sl7 o7 ∧ IsBytes H7 y r' ∧ Frm [] H H7 ∧ (∀ g, k7 = some g → H.size ≤ g) ∧ o7.length ≤ o.length + ln.length + 2 ∧ (∀ D, QText r' D → QText l (o7 ++ D)), ?_, ?_⟩
      · refine Br_intro (fun hs0 => ?_) (fun hs1 => ?_)
        · have hsf : soft = false := by simpa using hs0
          subst hsf
          refine append_ownS (d := [13, 10]) hown6 (by simp) (by simp; omega) fun k7 sl7 H7 hown7 f7 hk7 => ?_
          refine ⟨k7, sl7, _, rfl, hown7, hyb6.frm' f7 (fun hne b hb hm => ?_), f16.up f7 (fun x hx => .inr (hk6' x (by simpa using hx))), fun g hg => ?_, by simp; omega, fun D hD => ?_⟩
          · have h1 := hyB hne b hb
            have h2 := hk6' b (by simpa using hm)
            omega
          · rcases hk7 with h | ⟨g', h, hge⟩
            · exact hk6' g (by rw [← h, hg])
            · rw [hg] at h; cases h; have := f16.size; omega
          · rcases hcase with ⟨hs, _⟩ | ⟨_, p, q, e, ht, hb, hso, hc⟩
            · cases hs
            · have h3 := QText.hard p q d r' D ht hb hso hc (by rw [← e]; exact hl76) hD
              rw [← e, ← hr'] at h3
              have h4 := hq _ h3
              simpa using h4
        · have hst : soft = true := by simpa using hs1
          subst hst
          refine ⟨k6, sl6, _, rfl, hown6, hyb6, f16, hk6', by simp; omega, fun D hD => ?_⟩
          rcases hcase with ⟨_, p, e, ht, hc⟩ | ⟨hs, _⟩
          · have h3 := QText.soft p d r' D ht hc (by rw [e] at hl76; simp at hl76; omega) hD
            have e2 : p ++ 61 :: 13 :: 10 :: r' = r := by rw [hr', e]; simp
            rw [e2] at h3
            have h4 := hq _ h3
            simpa using h4
          · cases hs
      · rintro _ H7 ⟨k7, sl7, o7, rfl, g1, g2, g3, g4, g5, g6⟩
        simp only [Q9]
        exact ⟨r'.length, by omega, y, r', k7, sl7, o7, rfl, rfl, by omega, g2, hyB, g1, g3, g4, g6⟩
end Go.Cps
namespace Go.Cps
open Go Go.Proofs
theorem withF_true (k v : List UInt8) : ∀ l : List Hdr, withF k v true l = l
  | [] => rfl
  | p :: r => by
    rw [withF, if_neg (by simp), withF_true k v r]
theorem withF_sum {k v : List UInt8} {f : Hdr → Nat} : ∀ {l : List Hdr}, ((withF k v false l).map f).sum = f (k, [v]) + (l.map f).sum
  | [] => by
    show ([(k, [v])].map f).sum = _
    simp
  | p :: r => by
    rw [withF]
    split
    · rw [withF_true]; simp
    · have := withF_sum (k := k) (v := v) (f := f) (l := r)
      simp only [List.map_cons, List.sum_cons, this]
      omega
theorem delH_with {v : List UInt8} : ∀ {l : List Hdr}, (∀ p ∈ l, canonG true p.1 ≠ encKey) → delH encKey ((withF encKey v false l).map canonP) = l.map canonP
  | [], _ => by
    show delH encKey ([(encKey, [v])].map canonP) = _
    simp only [List.map_cons, List.map_nil, canonP, encKey_canon, delH, if_true]
  | p :: r, h => by
    rw [withF]
    split
    · rw [withF_true]
      simp only [List.map_cons, delH]
      rw [if_pos (by simp only [canonP, encKey_canon])]
    · have hp := h p (by simp)
      simp only [List.map_cons, delH]
      rw [if_neg (by simpa [canonP] using hp), delH_with fun q hq => h q (by simp [hq])]
theorem firstOf_with {v : List UInt8} : ∀ {l : List Hdr}, (∀ p ∈ l, canonG true p.1 ≠ encKey) → firstOf encKey ((withF encKey v false l).map canonP) = v
  | [], _ => by
    show firstOf encKey ([(encKey, [v])].map canonP) = _
    simp only [List.map_cons, List.map_nil, canonP, encKey_canon, firstOf, if_true, List.headD_cons]
  | p :: r, h => by
    rw [withF]
    split
    · rw [withF_true]
      simp only [List.map_cons, firstOf]
      rw [if_pos (by simp only [canonP, encKey_canon])]
      rfl
    · have hp := h p (by simp)
      simp only [List.map_cons, firstOf]
      rw [if_neg (by simpa [canonP] using hp), firstOf_with fun q hq => h q (by simp [hq])]
theorem firstOf_none {l : List Hdr} (h : ∀ p ∈ l, canonG true p.1 ≠ encKey) : firstOf encKey (l.map canonP) = [] := by
  induction l with
  | nil => rfl
  | cons p r ih =>
    have hp := h p (by simp)
    simp only [List.map_cons, firstOf]
    rw [if_neg (by simpa [canonP] using hp)]
    exact ih fun q hq => h q (by simp [hq])
theorem hasL_false {l : List Hdr} (h : hasL encKey l = false) : ∀ p ∈ l, canonG true p.1 ≠ encKey := by
  intro p hp e
  have : hasL encKey l = true := List.any_eq_true.2 ⟨p, hp, by simpa using e⟩
  rw [h] at this
  cases this
def toldP (p : PartL) (src : List UInt8) : PartL := (withF encKey qpL false p.1, src)
def quotedIn (l : List PartL) (k : Nat) (src D : List UInt8) : List QIn := (l.map fun p => (partInL p, none)).set k (partInL (toldP (l.getD k ([], [])) src), some D)
theorem quotedIn_fst {l : List PartL} {k : Nat} {src D : List UInt8} : (quotedIn l k src D).map (·.1) = (l.set k (toldP (l.getD k ([], [])) src)).map partInL := by
  unfold quotedIn
  rw [List.map_set, List.map_set, List.map_map]
  rfl
theorem quotedIn_good {bd : List UInt8} {l : List PartL} {k : Nat} {src D : List UInt8} (hg : ∀ p ∈ l, GoodPart bd p) (hw : ∀ p ∈ l, hasL encKey p.1 = false) (hk : k < l.length) (ht : GoodPart bd (toldP (l.getD k ([], [])) src)) (hq : QText src D) (hsm : ∀ p ∈ l, p.2.length < 2 ^ 38) (hsl : src.length < 2 ^ 38) : ∀ p ∈ quotedIn l k src D, GoodQ bd p := by
  intro p hp
  have hkm : l.getD k ([], []) ∈ l := by rw [List.getD_eq_getElem?_getD, List.getElem?_eq_getElem hk]; exact List.getElem_mem hk
  rcases List.mem_or_eq_of_mem_set hp with hp | rfl
  · obtain ⟨r, hr, rfl⟩ := List.mem_map.1 hp
    refine ⟨(hg r hr).inn (hsm r hr), fun _ => ?_, by simp⟩
    show firstOf encKey (hdrOf (linesOf r.1)) = []
    rw [(hg r hr).head.hdr]
    exact firstOf_none (hasL_false (hw r hr))
  · refine ⟨ht.inn hsl, by simp, fun d hd => ⟨?_, ?_⟩⟩
    · show firstOf encKey (hdrOf (linesOf (withF encKey qpL false (l.getD k ([], [])).1))) = qpL
      have hh : GoodHead (withF encKey qpL false (l.getD k ([], [])).1) := ht.head
      rw [hh.hdr]
      exact firstOf_with (hasL_false (hw _ hkm))
    · cases hd; exact hq
theorem quotedIn_res {bd : List UInt8} {l : List PartL} {k : Nat} {src D : List UInt8} (hg : ∀ p ∈ l, GoodPart bd p) (hw : ∀ p ∈ l, hasL encKey p.1 = false) (hk : k < l.length) (ht : GoodPart bd (toldP (l.getD k ([], [])) src)) : (quotedIn l k src D).map resN = (l.set k ((l.getD k ([], [])).1, D)).map canonPart := by
  have hkm : l.getD k ([], []) ∈ l := by rw [List.getD_eq_getElem?_getD, List.getElem?_eq_getElem hk]; exact List.getElem_mem hk
  unfold quotedIn
  rw [List.map_set, List.map_set, List.map_map]
  have e1 : l.map (resN ∘ fun p => (partInL p, none)) = l.map canonPart := List.map_congr_left fun p hp => (hg p hp).res
  rw [e1]
  congr 1
  have hh : GoodHead (withF encKey qpL false (l.getD k ([], [])).1) := ht.head
  show (sortHs (delH encKey (hdrOf (linesOf (withF encKey qpL false (l.getD k ([], [])).1)))), D) = (sortHs ((l.getD k ([], [])).1.map canonP), D)
  rw [hh.hdr, delH_with (hasL_false (hw _ hkm))]
theorem append_parts {H : Heap} {x : Value} {l : List PartL} {base : Option Addr} {K : Value → Heap → Prop} (hx : PartsV [] H x l) (h0 : l ≠ []) (hl : l.length < 2 ^ 36)
    (hK : ∀ v H', OwnS 2 39 PartR [] H' (some H.size) v l → Frm [] H H' → H'.size = H.size + 1 → K v H') :
    Append 39 2 48 #[(.slice none 0 0), (.slice none 0 0)] (.slice base 0 0) x H K := by
  have hpos : 0 < l.length := List.length_pos_iff.2 h0
  rcases hx with ⟨b, o, cp, rfl, h1, h2, h3, h4⟩ | ⟨_, _, he⟩
  · have hsome : ∀ i, i < l.length * 2 → (cellH H ⟨b, o + i, none⟩).isSome = true := fun i hi => by
      obtain ⟨vs, g1, _, g3⟩ := h4 (i / 2) (by omega)
      have := g3 (i % 2) (by omega)
      rw [show i / 2 * 2 + i % 2 = i by omega] at this
      rw [this, List.getElem?_eq_getElem (by omega)]
      rfl
    let news : List Value := (List.range (l.length * 2)).map fun i => (cellH H ⟨b, o + i, none⟩).getD undef
    have hnl : news.length = l.length * 2 := by simp [news]
    have hng : ∀ i, i < l.length * 2 → news[i]? = cellH H ⟨b, o + i, none⟩ := fun i hi => by
      obtain ⟨v, hv⟩ := Option.isSome_iff_exists.1 (hsome i hi)
      simp [news, hi, hv]
    have hel : elemsV 2 l.length (.slice (some ⟨b, o, none⟩) l.length cp) H = some news := by
      simp only [elemsV]
      exact (cellsH_getElem _ _ _).2 ⟨hnl, fun j hj => by rw [Nat.zero_add]; exact (hng j hj).symm⟩
    refine ⟨_, _, _, l.length, _, rfl, rfl, hel, .inr ⟨by omega, by omega, by rw [nextcap0]; omega, [], ?_, fun c hc => ?_⟩⟩
    · cases base with
      | none => rfl
      | some a => simp [elemsV, cellsH]
    · rw [Nat.zero_add] at hc ⊢
      have f1 : Frm [] H (H.push (.cells (([] : List Value).toArray ++ news.toArray ++ zeros #[.slice none 0 0, .slice none 0 0] (c - l.length)) 39 (0, 0))) := Frm.push _ _ _
      refine hK _ _ ⟨_, c, rfl, push_same _ _, ?_, hc, by simp, fun j hj => ?_⟩ f1 (by simp)
      · simp only [Array.size_append, List.size_toArray, List.length_nil, hnl, zeros, Builtin.zeroCells]
        simp
        omega
      · obtain ⟨vs, g1, g2, g3⟩ := h4 j hj
        refine ⟨vs, g1, Qw.frm (Qw.new g2 (Nat.le_refl _)) f1 (by simp), fun i hi => ?_⟩
        rw [Array.append_assoc, Array.getElem?_append_right (by simp), Array.getElem?_append_left (by simp [hnl]; omega)]
        have := hng (j * 2 + i) (by omega)
        simp only [List.size_toArray, List.length_nil, Nat.sub_zero, List.getElem?_toArray]
        rw [this, g3 i hi]
  · exact absurd he h0
theorem setPart {H : Heap} {g k : Nat} {v : Value} {l : List PartL} {p : PartL} {y z : Value} {K : Heap → Prop} (h : OwnS 2 39 PartR [] H (some g) v l) (hk : k < l.length) (hp : PartR [g] H p [y, z])
    (hK : ∀ H', OwnS 2 39 PartR [] H' (some g) v (l.set k p) → Frm [g] H H' → H'.size = H.size → K H') :
    Get (elemAddrV 2 v (.int .i64 (k : Nat))) fun a => Get (storeNV 2 a (.agg #[y, z]) H) K := by
  obtain ⟨cells, c, rfl, hg, hc, hle, hgD, he⟩ := h
  rw [elemAddr_of (by omega) (by omega), Q6]
  have e0 : 0 + ((k : Nat) : Int).toNat * 2 = k * 2 := by simp
  rw [e0]
  have hst := stores_upd [y, z] H g (k * 2) 0 cells 39 hg (by simp; omega) (Qw.one hp)
  have hs : storeNV 2 (.pointer (some ⟨g, k * 2, none⟩)) (.agg #[y, z]) H = some (upd H g (.cells (putAt cells (k * 2) [y, z]) 39 (0, 0))) := hst
  rw [hs, Q6]
  have f1 : Frm [g] H (upd H g (.cells (putAt cells (k * 2) [y, z]) 39 (0, 0))) := Frm.upd _ (by simp)
  have hfr : ∀ {a ys}, PartR [g] H a ys → PartR [g] (upd H g (.cells (putAt cells (k * 2) [y, z]) 39 (0, 0))) a ys := fun hb => Qw.frm hb f1 (fun x hx => .inl hx)
  refine hK _ ⟨putAt cells (k * 2) [y, z], c, by simp, upd_same (lt_of_some hg), by rw [putAt_size, hc], by simpa using hle, hgD, fun j hj => ?_⟩ f1 (by simp)
  rw [List.length_set] at hj
  by_cases hjk : j = k
  · subst hjk
    refine ⟨[y, z], rfl, by rw [List.getElem_set_self]; exact hfr hp, fun i hi => ?_⟩
    exact putAt_new _ _ _ _ (by simpa using hi) (by simp; omega)
  · obtain ⟨vs, g1, g2, g3⟩ := he j hj
    refine ⟨vs, g1, by rw [List.getElem_set_ne (fun e => hjk e.symm)]; exact hfr g2, fun i hi => ?_⟩
    rw [putAt_get _ _ _ _ (by simp; omega), if_neg (by simp; omega)]
    exact g3 i hi
end Go.Cps
