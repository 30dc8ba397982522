/-
  Contracts: skipLWSPChar, isFinalBoundary, isBoundaryDelimiterLine.
  Conditions: each contract's own.
-/
import Derived.Test.YtfajmapajpfocaaGreatDoorL2
set_option linter.all false
namespace Go.Cps
open Go Go.Proofs

def lws (b : UInt8) : Bool := b == 32 || b == 9
theorem wrap_nat {n : Nat} (h : n < 9223372036854775808) : IntKind.i64.wrap (n : Int) = n := wrap_i64 (by omega) (by omega)

theorem byte_beq (b c : UInt8) : (((b.toNat : Nat) : Int) == ((c.toNat : Nat) : Int)) = (b == c) := by
  rw [Bool.eq_iff_iff, beq_iff_eq, beq_iff_eq]
  constructor
  · intro e; exact UInt8.toNat_inj.1 (by omega)
  · rintro rfl; rfl

theorem skip_ok {v : Value} {l : List UInt8} {H : Heap} (hv : IsBytes H v l) : CallsH Tryz.prog 113 #[v] H fun x H' => H' = H ∧ IsBytes H x (l.dropWhile lws) := by
  apply s113
  unfold c113
  refine ⟨fun n vs H' => ∃ u m, vs = [u] ∧ n = m.length ∧ H' = H ∧ IsBytes H u m ∧ m.dropWhile lws = l.dropWhile lws, ⟨_, v, l, rfl, rfl, rfl, hv, rfl⟩, ?_⟩
  rintro n vs H' ⟨u, m, rfl, rfl, rfl, hu, hm⟩
  simp only [nth_zero, hu.len, Get_some, arithV_gtr]
  cases m with
  | nil =>
    refine ⟨fun vs H => vs = [.bool false] ∧ H = H', by simp, ?_⟩
    rintro _ _ ⟨rfl, rfl⟩
    simp only [nth_zero, Br_false, true_and]
    rw [← hm]
    exact hu
  | cons b r =>
    rcases hu with ⟨bb, o, c, rfl, hc, hcell⟩ | ⟨_, h⟩
    · have h0 := hcell 0 (by simp)
      simp only [Nat.add_zero, List.getElem?_cons_zero, Option.map_some] at h0
      have he : elemAddrV 1 (.slice (some ⟨bb, o, none⟩) (b :: r).length c) (.int .i64 0) = some (.pointer (some ⟨bb, o, none⟩)) := by
        rw [elemAddr_of (by omega) (by simp)]; simp
      have hlt : decide (((b :: r).length : Int) > 0) = true := by simp
      refine ⟨fun vs H => vs = [.bool (lws b)] ∧ H = H', ?_, ?_⟩
      · simp only [hlt, Br_true, he, Get_some, load1V_ptr, h0, byteV, arithV_eql, pickV_bool, if_true, Bool.false_eq_true, if_false]
        have e32 : (((b.toNat : Nat) : Int) == 32) = (b == 32) := byte_beq b 32
        have e9 : (((b.toNat : Nat) : Int) == 9) = (b == 9) := byte_beq b 9
        rw [e32, e9]
        refine Br_intro (fun h => ?_) (fun h => ?_)
        · simp [lws, h]
        · simp [lws, h]
      · rintro _ _ ⟨rfl, rfl⟩
        simp only [nth_zero]
        refine Br_intro (fun h => ?_) (fun h => ?_)
        · rw [show (Value.int .i64 1) = .int .i64 ((1 : Nat) : Int) from rfl, sliceV_lo (lo := 1) (by simp), Get_some]
          refine ⟨r.length, by simp, _, r, rfl, rfl, trivial, ?_, ?_⟩
          · have := IsBytes.sub (lo := 1) (hi := (b :: r).length) (.inl ⟨bb, o, c, rfl, hc, hcell⟩) (by simp) (Nat.le_refl _)
            simpa [apply_ite] using this
          · rw [← hm, List.dropWhile_cons, if_pos h]
        · refine ⟨trivial, ?_⟩
          rw [← hm, List.dropWhile_cons, if_neg (by simp [h])]
          exact .inl ⟨bb, o, c, rfl, hc, hcell⟩
    · simp at h

theorem IsBytes.from' {H : Heap} {v : Value} {l : List UInt8} (hl : IsBytes H v l) {lo : Nat} (hle : lo ≤ l.length) (k : IntKind) : ∃ u, sliceV 1 v (some (.int k lo)) none none = some u ∧ IsBytes H u (l.drop lo) := by
  rcases hl with ⟨bb, o, c, rfl, hc, hcell⟩ | ⟨rfl, rfl⟩
  · refine ⟨_, sliceV_lo hle _, ?_⟩
    have := IsBytes.sub (lo := lo) (hi := l.length) (.inl ⟨bb, o, c, rfl, hc, hcell⟩) hle (Nat.le_refl _)
    simpa [apply_ite] using this
  · have : lo = 0 := by simpa using hle
    subst this
    exact ⟨.slice none 0 0, rfl, .inr ⟨rfl, rfl⟩⟩

/- a multipart Reader's block -/
structure MRf where
  br : Value
  tmp : Value
  cur : Value
  parts : Int
  nl : Value
  nld : Value
  dd : Value
  dash : Value
def MRf.cells (m : MRf) : Array Value := #[m.br, m.tmp, m.cur, .int .i64 m.parts, m.nl, m.nld, m.dd, m.dash]

def finalLine (line dd nl : List UInt8) : Bool :=
  dd.isPrefixOf line && (((line.drop dd.length).dropWhile lws).isEmpty || (line.drop dd.length).dropWhile lws == nl)

theorem isFinal_ok {mr : Nat} {m : MRf} {T : TypeId} {line : Value} {l dd nl : List UInt8} {H : Heap} (hm : H[mr]? = some (.cells m.cells T (0, 0))) (hl : IsBytes H line l) (hdd : IsBytes H m.dd dd) (hnl : IsBytes H m.nl nl) :
    CallsH Tryz.prog 94 #[.pointer (some ⟨mr, 0, none⟩), line] H fun x H' => x = .bool (finalLine l dd nl) ∧ H' = H := by
  apply s94
  have c6 : cellH H ⟨mr, 6, none⟩ = some m.dd := by rw [cellH_of hm]; rfl
  have c4 : cellH H ⟨mr, 4, none⟩ = some m.nl := by rw [cellH_of hm]; rfl
  simp only [c94, Fld_ptr, add_mk, Nat.zero_add, c6, Get_some]
  refine (hasPrefix_ok hl hdd).mono ?_
  rintro x H' ⟨rfl, rfl⟩
  simp only [unV_not, Get_some]
  refine Br_intro (fun h => ?_) (fun h => ?_)
  · simp only [Bool.not_eq_true'] at h
    simp [finalLine, h]
  · simp only [Bool.not_eq_false'] at h
    have hle : dd.length ≤ l.length := (List.isPrefixOf_iff_prefix.1 h).length_le
    simp only [c6, hdd.len, Get_some]
    have hsub := hl.from' hle .i64
    obtain ⟨u, hu, hub⟩ := hsub
    rw [hu, Get_some]
    refine (skip_ok hub).mono ?_
    rintro y H'' ⟨rfl, hy⟩
    simp only [hy.len, Get_some, arithV_eql]
    refine Join_direct ?_
    refine Br_intro (fun h2 => ?_) (fun h2 => ?_)
    · simp only [pickV_bool, if_true, Get_some, nth_zero, and_true, Value.bool.injEq]
      have : (l.drop dd.length).dropWhile lws = [] := List.eq_nil_of_length_eq_zero (by simpa using h2)
      simp [finalLine, h, this]
    · simp only [c4, Get_some]
      refine (equal_ok hy hnl).mono ?_
      rintro z H3 ⟨rfl, rfl⟩
      simp only [pickV_bool, Bool.false_eq_true, if_false, Get_some, nth_zero, and_true, Value.bool.injEq]
      have : ((l.drop dd.length).dropWhile lws).isEmpty = false := by
        rw [List.isEmpty_eq_false_iff]
        intro e
        rw [e] at h2
        simp at h2
      simp [finalLine, h, this]

def delimLine (line dash nl : List UInt8) : Bool := dash.isPrefixOf line && ((line.drop dash.length).dropWhile lws == nl)

theorem isDelim_ok {mr : Nat} {m : MRf} {T : TypeId} {line : Value} {l dash nl : List UInt8} {H : Heap} (hm : H[mr]? = some (.cells m.cells T (0, 0))) (hl : IsBytes H line l) (hd : IsBytes H m.dash dash) (hnl : IsBytes H m.nl nl)
    (h10 : (l.drop dash.length).dropWhile lws ≠ [10]) :
    CallsH Tryz.prog 95 #[.pointer (some ⟨mr, 0, none⟩), line] H fun x H' => x = .bool (delimLine l dash nl) ∧ H' = H := by
  apply s95
  have c7 : cellH H ⟨mr, 7, none⟩ = some m.dash := by rw [cellH_of hm]; rfl
  have c4 : cellH H ⟨mr, 4, none⟩ = some m.nl := by rw [cellH_of hm]; rfl
  have c3 : cellH H ⟨mr, 3, none⟩ = some (.int .i64 m.parts) := by rw [cellH_of hm]; rfl
  simp only [c95, Fld_ptr, add_mk, Nat.zero_add, c7, Get_some]
  refine (hasPrefix_ok hl hd).mono ?_
  rintro x H' ⟨rfl, rfl⟩
  simp only [unV_not, Get_some]
  refine Br_intro (fun h => ?_) (fun h => ?_)
  · simp only [Bool.not_eq_true'] at h
    simp [delimLine, h]
  · simp only [Bool.not_eq_false'] at h
    have hle : dash.length ≤ l.length := (List.isPrefixOf_iff_prefix.1 h).length_le
    simp only [c7, hd.len, Get_some]
    obtain ⟨u, hu, hub⟩ := hl.from' hle .i64
    rw [hu, Get_some]
    refine (skip_ok hub).mono ?_
    rintro y H'' ⟨rfl, hy⟩
    refine ⟨fun _ H => H = H'', ?_, ?_⟩
    · refine ⟨fun vs H => vs = [.bool false] ∧ H = H'', ?_, ?_⟩
      · simp only [c3, Get_some, arithV_eql, hy.len, pickV_bool, if_true, Bool.false_eq_true, if_false, Br_false]
        refine Br_intro (fun h2 => ?_) (fun h2 => by simp)
        refine Br_intro (fun h3 => ?_) (fun h3 => by simp)
        have hlen : ((l.drop dash.length).dropWhile lws).length = 1 := by
          rw [beq_iff_eq] at h3; omega
        rcases hy with ⟨bb, o, c, rfl, hc, hcell⟩ | ⟨_, hnil⟩
        · have h0 := hcell 0 (by omega)
          obtain ⟨b, hb⟩ := List.length_eq_one_iff.1 hlen
          rw [hb] at h0 h10 ⊢
          simp only [Nat.add_zero, List.getElem?_cons_zero, Option.map_some] at h0
          have he : elemAddrV 1 (.slice (some ⟨bb, o, none⟩) 1 c) (.int .i64 0) = some (.pointer (some ⟨bb, o, none⟩)) := by
            rw [elemAddr_of (by omega) (by simp)]; simp
          have e10 : (((b.toNat : Nat) : Int) == 10) = (b == 10) := byte_beq b 10
          have hne : (b == 10) = false := by
            rw [beq_eq_false_iff_ne]
            rintro rfl
            exact h10 rfl
          simp [he, h0, byteV, e10, hne]
        · rw [hnil] at hlen
          simp at hlen
      · rintro _ _ ⟨rfl, rfl⟩
        simp
    · rintro _ _ rfl
      simp only [c4, Get_some]
      refine (equal_ok hy hnl).mono ?_
      rintro z H3 ⟨rfl, rfl⟩
      simp [delimLine, h]
end Go.Cps
