/-
  A part of the proof: Bytes of headers: validHeaderValueByte, validHeaderFieldByte, isASCIILetter, by tables. What the bodies of some functions of the program come to, at heap level, each proved of the program itself. Lines of a header: ReadLine, readLineSlice, trim, mustHaveFieldNameColon. trim; ReadByte, UnreadByte, skipSpace ahead of a byte that is no blank.
  Conditions: each contract's own.
-/
import Derived.Test.YteajpfckbnfdaaaGreatDoorH4
import Derived.Test.YteajpfckbnfdaaaGreatDoorH12
import Derived.Test.YteajpfckbnfdaaaGreatDoorH13
set_option linter.all false
namespace Go.Cps
open Go Go.Proofs
def tok (n : Int) : Bool := alnum n || n == 33 || n == 35 || n == 36 || n == 37 || n == 38 || n == 39 || n == 42 || n == 43 || n == 45 || n == 46 || n == 94 || n == 95 || n == 96 || n == 124 || n == 126
def printV (n : Int) : Bool := (32 ≤ n && n ≤ 126) || n == 9 || 128 ≤ n
def isLet (n : Int) : Bool := (65 ≤ n && n ≤ 90) || (97 ≤ n && n ≤ 122)
def f171 (n : Nat) : Option Value :=
  (shiftV .shl .u64 (.int .u64 1) (.int .u8 n)).bind fun x4 =>
  (arithV .andNot .u64 x4 (.int .u64 18446744069414584832)).bind fun x5 =>
  (arithV .sub .u8 (.int .u8 n) (.int .u8 64)).bind fun x7 =>
  (shiftV .shl .u64 (.int .u64 1) x7).bind fun x8 =>
  (arithV .andNot .u64 x8 (.int .u64 9223372036854775807)).bind fun x9 =>
  (arithV .or .u64 x5 x9).bind fun x10 =>
  (arithV .eql .u64 x10 (.int .u64 0))
def isB (o : Option Value) (b : Bool) : Bool := match o with | some (.bool c) => c == b | _ => false
theorem isB_eq {o : Option Value} {b : Bool} (h : isB o b = true) : o = some (.bool b) := by
  unfold isB at h
  split at h
  · rw [beq_iff_eq.1 h]
  · cases h
theorem t171 : ((List.range 256).all fun n => isB (f171 n) (printV n)) = true := by kernel_rfl
theorem at171 (b : UInt8) : f171 b.toNat = some (.bool (printV b.toNat)) :=
  isB_eq (List.all_eq_true.1 t171 b.toNat (List.mem_range.2 b.toNat_lt))
theorem valueByte_ok {b : UInt8} {H : Heap} : CallsH Tryz.prog 174 #[byteV b] H fun x H' => x = .bool (printV b.toNat) ∧ H' = H := by
  apply s171
  have h := at171 b
  unfold f171 at h
  simp only [Option.bind_eq_some_iff] at h
  obtain ⟨x4, h4, x5, h5, x7, h7, x8, h8, x9, h9, x10, h10, h11⟩ := h
  exact ⟨x4, h4, x5, h5, x7, h7, x8, h8, x9, h9, x10, h10, _, h11, rfl, rfl⟩
def f119 (n : Nat) : Option Value :=
  (shiftV .shl .u64 (.int .u64 1) (.int .u8 n)).bind fun x4 =>
  (arithV .and .u64 x4 (.int .u64 288068722172624896)).bind fun x5 =>
  (arithV .sub .u8 (.int .u8 n) (.int .u8 64)).bind fun x7 =>
  (shiftV .shl .u64 (.int .u64 1) x7).bind fun x8 =>
  (arithV .and .u64 x8 (.int .u64 6341068274398134270)).bind fun x9 =>
  (arithV .or .u64 x5 x9).bind fun x10 =>
  (arithV .neq .u64 x10 (.int .u64 0))
theorem t119 : ((List.range 256).all fun n => isB (f119 n) (tok n)) = true := by kernel_rfl
theorem fieldByte_ok {b : UInt8} {H : Heap} : CallsH Tryz.prog 83 #[byteV b] H fun x H' => x = .bool (tok b.toNat) ∧ H' = H := by
  apply s119
  have h : f119 b.toNat = some (.bool (tok b.toNat)) := isB_eq (List.all_eq_true.1 t119 b.toNat (List.mem_range.2 b.toNat_lt))
  unfold f119 at h
  simp only [Option.bind_eq_some_iff] at h
  obtain ⟨x4, h4, x5, h5, x7, h7, x8, h8, x9, h9, x10, h10, h11⟩ := h
  exact ⟨x4, h4, x5, h5, x7, h7, x8, h8, x9, h9, x10, h10, _, h11, rfl, rfl⟩
def or32 (n : Nat) : Option Int := match arithV .or .u8 (.int .u8 n) (.int .u8 32) with | some (.int .u8 m) => some m | _ => none
theorem t175 : ((List.range 256).all fun n => match or32 n with | some m => (decide (97 ≤ m) && decide (m ≤ 122)) == isLet n | none => false) = true := by kernel_rfl
theorem letterB_ok {b : UInt8} {H : Heap} : CallsH Tryz.prog 186 #[byteV b] H fun x H' => x = .bool (isLet b.toNat) ∧ H' = H := by
  apply s175
  have h := List.all_eq_true.1 t175 b.toNat (List.mem_range.2 b.toNat_lt)
  cases ho : or32 b.toNat with
  | none => rw [ho] at h; cases h
  | some m =>
    rw [ho] at h
    simp only [beq_iff_eq] at h
    have hv : arithV .or .u8 (byteV b) (.int .u8 32) = some (.int .u8 m) := by
      unfold or32 at ho
      rw [byteV]
      split at ho
      · rename_i hh; cases ho; exact hh
      · cases ho
    simp only [c175, hv, Q6, Qk, Ql, Qm, Qn, Qo, Qp, Qq, Qr, Qs]
    refine ⟨fun vs H' => vs = [.bool (isLet b.toNat)] ∧ H' = H, ?_, ?_⟩
    · refine Br_intro (fun h1 => ?_) (fun h1 => ?_) <;> simp only [Q0, Q1, Q2, Q3, Q4, Q5, Q6, Q7, Q8, Q9, Qa, Qb, Qc, Qd, Qe, Qf, Qg, Qh, Qi, Qj, Bool.false_eq_true, if_false, if_true, ← h, h1] <;> simp
    · rintro _ H' ⟨rfl, rfl⟩
      simp only [Q0, Q1, Q2, Q3, Q4, Q5, Q6, Q7, Q8, Q9, Qa, Qb, Qc, Qd, Qe, Qf, Qg, Qh, Qi, Qj, and_self]
theorem bytesIndexT_ok {v u : Value} {buf pat : List UInt8} {H : Heap} (hv : IsBytes H v buf) (hu : IsBytes H u pat) (hl : buf.length < 2 ^ 40) (hp : pat.length < 2 ^ 40) :
    CallsH Tryz.prog 189 #[v, u] H fun x H' => H' = H ∧ ((x = .int .i64 (-1) ∧ Nowhere buf pat) ∨ ∃ i : Nat, x = .int .i64 i ∧ First buf pat i) := by
  apply s178
  unfold c178
  refine ⟨fun n vs H' => ∃ i : Nat, vs = [.int .i64 i] ∧ n = buf.length + 1 - i ∧ i ≤ buf.length + 1 ∧ H' = H ∧ ∀ j, j < i → (buf.drop j).take pat.length ≠ pat, ⟨_, 0, rfl, rfl, Nat.zero_le _, rfl, fun j hj => by omega⟩, ?_⟩
  rintro n vs H ⟨i, rfl, rfl, hi, rfl, hno⟩
  have e1 : IntKind.i64.wrap ((i : Int) + (pat.length : Int)) = ((i + pat.length : Nat) : Int) := by rw [wrap_i64 (by omega) (by omega)]; omega
  have dd : ∀ a b : Nat, decide ((a : Int) ≤ (b : Int)) = decide (a ≤ b) := fun a b => by simp
  simp only [hv.len, hu.len, Q0, Q1, Q2, Q3, Q4, Q5, Q6, Q7, Q8, Q9, Qa, Qb, Qc, Qd, Qe, Qf, Qg, Qh, Qi, Qj, Qk, Ql, Qm, Qn, Qo, Qp, Qq, Qr, Qs, e1, dd]
  refine Br_intro (fun hle => ?_) (fun hle => ?_)
  · have hle' : i + pat.length ≤ buf.length := by simpa using hle
    have hsub : ∃ y, sliceV 1 v (some (.int .i64 i)) (some (.int .i64 ((i + pat.length : Nat) : Int))) none = some y ∧ IsBytes H y ((buf.drop i).take pat.length) := by
      rcases hv with ⟨b, o, c, rfl, hc, hcell⟩ | ⟨a', rfl, rfl⟩
      · have e := IsBytes.sub (lo := i) (hi := i + pat.length) (.inl ⟨b, o, c, rfl, hc, hcell⟩) (by omega) hle'
        refine ⟨_, sliceV_of (by omega) (by omega) .i64 .i64, ?_⟩
        rw [List.drop_take, show i + pat.length - i = pat.length by omega] at e
        simpa [apply_ite] using e
      · simp only [List.length_nil] at hle'
        have h1 : i = 0 := by omega
        have h2 : pat.length = 0 := by omega
        rw [h1, h2]
        exact ⟨.slice a' 0 0, by cases a' <;> rfl, .inr ⟨a', rfl, rfl⟩⟩
    obtain ⟨y, hy, hyb⟩ := hsub
    have e2 : IntKind.i64.wrap ((i : Int) + 1) = ((i + 1 : Nat) : Int) := by rw [wrap_i64 (by omega) (by omega)]; omega
    simp only [hy, Q6, hyb.str, hu.str, strV_eql, toList_mk, Q0, Q1, Q2, Q3, Q4, Q5, Q6, Q7, Q8, Q9, Qa, Qb, Qc, Qd, Qe, Qf, Qg, Qh, Qi, Qj, Qk, Ql, Qm, Qn, Qo, Qp, Qq, Qr, Qs, e2]
    refine Br_intro (fun he => ?_) (fun he => ?_)
    · exact ⟨trivial, .inr ⟨i, rfl, hle', by simpa using he, hno⟩⟩
    · refine ⟨_, by omega, i + 1, rfl, rfl, by omega, trivial, fun j hj => ?_⟩
      by_cases hji : j = i
      · subst hji
        simpa using he
      · exact hno j (by omega)
  · refine ⟨trivial, .inl ⟨trivial, fun j hj => hno j ?_⟩⟩
    simp only [decide_eq_false_iff_not] at hle
    omega
def SubS (y v : Value) : Prop := blk y = blk v ∧ ∀ b hi, Rng v b hi → Rng y b hi
theorem SubS.trans {x y z : Value} (h : SubS x y) (k : SubS y z) : SubS x z := ⟨h.1.trans k.1, fun b hi hh => h.2 b hi (k.2 b hi hh)⟩
theorem SubS.refl (x : Value) : SubS x x := ⟨rfl, fun _ _ h => h⟩
theorem sub_slice {b o c lo hi n : Nat} (h1 : lo ≤ hi) (h2 : hi ≤ n) (h3 : n ≤ c) : SubS (.slice (if c = lo then some (⟨b, o, none⟩ : Addr) else (some (⟨b, o, none⟩ : Addr)).map (·.add (lo * 1))) (hi - lo) (c - lo)) (.slice (some ⟨b, o, none⟩) n c) := by
  refine ⟨by rw [blk_slice, blk_slice]; split <;> simp, ?_⟩
  rintro b' hi' ⟨o', n', c', he, hle⟩
  cases he
  split
  · exact ⟨o, hi - lo, c - lo, rfl, by omega⟩
  · exact ⟨o + lo * 1, hi - lo, c - lo, by simp, by omega⟩
theorem sub_upto {b o c n hi : Nat} (h2 : hi ≤ n) : SubS (.slice (some ⟨b, o, none⟩) hi c) (.slice (some ⟨b, o, none⟩) n c) := by
  refine ⟨rfl, ?_⟩
  rintro b' hi' ⟨o', n', c', he, hle⟩
  cases he
  exact ⟨o, _, _, rfl, by omega⟩
theorem IsBytes.upto {H : Heap} {v : Value} {l : List UInt8} (h : IsBytes H v l) {j : Nat} (h2 : j ≤ l.length) (k' : IntKind) : ∃ y, sliceV 1 v none (some (.int k' j)) none = some y ∧ IsBytes H y (l.take j) ∧ SubS y v := by
  rcases h with ⟨b, o, c, rfl, hc, hcell⟩ | ⟨a', rfl, rfl⟩
  · refine ⟨_, sliceV_hi (by omega) k', .inl ⟨b, o, c, by simp; omega, by simp; omega, fun i hi => ?_⟩, sub_upto h2⟩
    simp only [List.length_take] at hi
    rw [hcell i (by omega), List.getElem?_take, if_pos (by omega)]
  · simp only [List.length_nil, Nat.le_zero] at h2
    subst h2
    exact ⟨.slice a' 0 0, by cases a' <;> rfl, .inr ⟨a', rfl, rfl⟩, SubS.refl _⟩
theorem IsBytes.from2 {H : Heap} {v : Value} {l : List UInt8} (h : IsBytes H v l) {i : Nat} (h1 : i ≤ l.length) (k : IntKind) : ∃ y, sliceV 1 v (some (.int k i)) none none = some y ∧ IsBytes H y (l.drop i) ∧ SubS y v := by
  rcases h with ⟨b, o, c, rfl, hc, hcell⟩ | ⟨a', rfl, rfl⟩
  · have e := IsBytes.sub (lo := i) (hi := l.length) (.inl ⟨b, o, c, rfl, hc, hcell⟩) h1 (Nat.le_refl _)
    rw [List.take_length] at e
    refine ⟨_, sliceV_lo h1 k, ?_, ?_⟩
    · simpa [apply_ite] using e
    · exact sub_slice h1 (Nat.le_refl _) hc
  · simp only [List.length_nil, Nat.le_zero] at h1
    subst h1
    exact ⟨.slice a' 0 0, by cases a' <;> rfl, .inr ⟨a', rfl, rfl⟩, SubS.refl _⟩
end Go.Cps
namespace Go.Cps
open Go Go.Proofs
set_option maxRecDepth 100000
def c96 (a0 a1 a2 a3 : Value) (H : Heap) (R : Value → Heap → Prop) : Prop :=
  NewMap H fun x12 H =>
  Get ((fillV #[(0, 1), (1, 1), (2, 1), (3, 1), (4, 1), (5, 1), (6, 1), (7, 1), (8, 1)] #[(.map none), (.pointer none), (.string ⟨#[]⟩), (.map none), .nilIface, (.int .i64 0), (.int .i64 0), .nilIface, .nilIface] [(0, x12), (1, a0)]).map .agg) fun x14 =>
  New (.cells (Value.cells x14) 85 (0, 0)) H fun x15 H =>
  CallsH Tryz.prog 64 #[x15, a2, a3] H fun x19 H =>
  Get (nilV2 .neq .nilIface x19) fun x21 =>
  Br x21 (
  R (.tuple #[(.pointer none), x19]) H) (
  Get ((fillV #[(0, 1)] #[(.pointer none)] [(0, x15)]).map .agg) fun x25 =>
  Get (some (Value.iface 128 x25)) fun x26 =>
  Get (nilV x15) fun x27 =>
  Get (fieldAddrV 4 x27) fun x28 =>
  Get (store1V x28 x26 H) fun H =>
  Join (fun K1 =>
  Get (unV .not a1) fun x30 =>
  Br x30 (
  Fld 0 x15 H fun x34 =>
  CallsH Tryz.prog 49 #[x34, (.string ⟨#[67, 111, 110, 116, 101, 110, 116, 45, 84, 114, 97, 110, 115, 102, 101, 114, 45, 69, 110, 99, 111, 100, 105, 110, 103]⟩)] H fun x35 H =>
  CallsH Tryz.prog 65 #[x35, (.string ⟨#[113, 117, 111, 116, 101, 100, 45, 112, 114, 105, 110, 116, 97, 98, 108, 101]⟩)] H fun x36 H =>
  Br x36 (
  Fld 0 x15 H fun x40 =>
  CallsH Tryz.prog 66 #[x40, (.string ⟨#[67, 111, 110, 116, 101, 110, 116, 45, 84, 114, 97, 110, 115, 102, 101, 114, 45, 69, 110, 99, 111, 100, 105, 110, 103]⟩)] H fun _ H =>
  Fld 4 x15 H fun x46 =>
  CallsH Tryz.prog 67 #[x46] H fun x47 H =>
  Get (some (Value.iface 131 x47)) fun x48 =>
  Get (nilV x15) fun x49 =>
  Get (fieldAddrV 4 x49) fun x50 =>
  Get (store1V x50 x48 H) fun H =>
  K1 [] H) (
  K1 [] H)) (
  K1 [] H)) fun _ H =>
  R (.tuple #[x15, .nilIface]) H)
def p96 : Plan := .seq (.leaf []) (.seq (.leaf []) (.seq (.seq (.leaf []) (.seq (.leaf []) (.cond (.seq (.leaf []) (.leaf [])) (.leaf [])))) (.seq (.leaf []) (.join [] (.seq (.leaf []) (.cond (.seq (.leaf []) (.cond (.seq (.leaf []) (.leaf [])) (.leaf []))) (.leaf []))) (.seq (.leaf []) (.leaf []))))))
theorem s96 {a0 a1 a2 a3 : Value} {H : Heap} {R : Value → Heap → Prop} (h : c96 a0 a1 a2 a3 H R) : CallsH Tryz.prog 48 #[a0, a1, a2, a3] H R :=
  callsH_of_eq p96 (fn := Tryz.f48) (c := Tryz.f48.body.getD .skip) (args := [a0, a1, a2, a3]) Tryz.func48 (by kernel_rfl) mixed (by kernel_rfl) (by kernel_rfl) (by kernel_rfl) h
def c114 (a0 a1 a2 : Value) (H : Heap) (R : Value → Heap → Prop) : Prop :=
  Fld 1 a0 H fun x13 =>
  Fld 0 x13 H fun x16 =>
  CallsH Tryz.prog 92 #[x16] H fun x17 H =>
  CallsH Tryz.prog 93 #[x17, a1, a2] H fun x22 H =>
  Get (extractV x22 0) fun x23 =>
  Get (extractV x22 1) fun x24 =>
  Join (fun K1 =>
  Get (nilV2 .eql .nilIface x24) fun x26 =>
  Br x26 (
  Get (nilV a0) fun x29 =>
  Get (fieldAddrV 0 x29) fun x30 =>
  Get (store1V x30 x23 H) fun H =>
  K1 [] H) (
  K1 [] H)) fun _ H =>
  Join (fun K3 =>
  Join (fun K4 =>
  Get (nilV2 .neq .nilIface x24) fun x32 =>
  Br x32 (
  Invoke Tryz.prog "Error" x24 #[] H fun x35 H =>
  Get (strV .eql x35 (.string ⟨#[109, 101, 115, 115, 97, 103, 101, 32, 116, 111, 111, 32, 108, 97, 114, 103, 101]⟩)) fun x36 =>
  Get (pickV (.bool true) x36 (.bool false)) fun x37 =>
  K4 [x37] H) (
  Get (pickV (.bool false) undef (.bool false)) fun x37_1 =>
  K4 [x37_1] H)) fun vs5 H =>
  Br (nth vs5 0) (
  Get (load1V (.pointer (some ⟨6, 0, none⟩)) H) fun x38 =>
  K3 [x38] H) (
  K3 [x24] H)) fun vs6 H =>
  R (nth vs6 0) H
def p114 : Plan := .seq (.leaf []) (.seq (.leaf []) (.seq (.leaf []) (.join [] (.seq (.leaf []) (.cond (.leaf []) (.leaf []))) (.join [9] (.join [37] (.leaf []) (.cond (.leaf []) (.leaf []))) (.seq (.leaf []) (.leaf []))))))
theorem s114 {a0 a1 a2 : Value} {H : Heap} {R : Value → Heap → Prop} (h : c114 a0 a1 a2 H R) : CallsH Tryz.prog 64 #[a0, a1, a2] H R :=
  callsH_of_eq p114 (fn := Tryz.f64) (c := Tryz.f64.body.getD .skip) (args := [a0, a1, a2]) Tryz.func64 (by kernel_rfl) mixed (by kernel_rfl) (by kernel_rfl) (by kernel_rfl) h
def c144 (a0 a1 a2 : Value) (H : Heap) (R : Value → Heap → Prop) : Prop :=
  CallsH Tryz.prog 121 #[a0, a1, a2] H fun x11 H =>
  Get (extractV x11 0) fun x12 =>
  Get (extractV x11 1) fun x13 =>
  R (.tuple #[x12, x13]) H
def p144 : Plan := .seq (.leaf []) (.seq (.leaf []) (.leaf []))
theorem s144 {a0 a1 a2 : Value} {H : Heap} {R : Value → Heap → Prop} (h : c144 a0 a1 a2 H R) : CallsH Tryz.prog 93 #[a0, a1, a2] H R :=
  callsH_of_eq p144 (fn := Tryz.f93) (c := Tryz.f93.body.getD .skip) (args := [a0, a1, a2]) Tryz.func93 (by kernel_rfl) mixed (by kernel_rfl) (by kernel_rfl) (by kernel_rfl) h
def c158 (a0 a1 a2 : Value) (H : Heap) (R : Value → Heap → Prop) : Prop :=
  CallsH Tryz.prog 151 #[a0, a1, a2] H fun x11 H =>
  Get (extractV x11 0) fun x12 =>
  Get (extractV x11 1) fun x13 =>
  R (.tuple #[x12, x13]) H
def p158 : Plan := .seq (.leaf []) (.seq (.leaf []) (.leaf []))
theorem s158 {a0 a1 a2 : Value} {H : Heap} {R : Value → Heap → Prop} (h : c158 a0 a1 a2 H R) : CallsH Tryz.prog 121 #[a0, a1, a2] H R :=
  callsH_of_eq p158 (fn := Tryz.f121) (c := Tryz.f121.body.getD .skip) (args := [a0, a1, a2]) Tryz.func121 (by kernel_rfl) mixed (by kernel_rfl) (by kernel_rfl) (by kernel_rfl) h
def c143 (a0 : Value) (H : Heap) (R : Value → Heap → Prop) : Prop :=
  Get ((fillV #[(0, 1), (1, 1), (2, 1)] #[(.pointer none), (.pointer none), (.slice none 0 0)] [(0, a0)]).map .agg) fun x4 =>
  New (.cells (Value.cells x4) 199 (0, 0)) H fun x5 H =>
  R x5 H
def p143 : Plan := .seq (.leaf []) (.seq (.leaf []) (.leaf []))
theorem s143 {a0 : Value} {H : Heap} {R : Value → Heap → Prop} (h : c143 a0 H R) : CallsH Tryz.prog 92 #[a0] H R :=
  callsH_of_eq p143 (fn := Tryz.f92) (c := Tryz.f92.body.getD .skip) (args := [a0]) Tryz.func92 (by kernel_rfl) mixed (by kernel_rfl) (by kernel_rfl) (by kernel_rfl) h
def c164 (a0 a1 a2 : Value) (H : Heap) (R : Value → Heap → Prop) : Prop :=
  Get (arithV .lss .i64 a1 (.int .i64 0)) fun x26 =>
  Br x26 (
  Get (load1V (.pointer (some ⟨22, 0, none⟩)) H) fun x27 =>
  R (.tuple #[(.map none), x27]) H) (
  CallsH Tryz.prog 168 #[a0] H fun x29 H =>
  Join (fun K1 =>
  Get (arithV .gtr .i64 x29 (.int .i64 0)) fun x31 =>
  Br x31 (
  Join (fun K2 =>
  Get (arithV .gtr .i64 x29 (.int .i64 1000)) fun x33 =>
  Br x33 (
  K2 [(.int .i64 1000)] H) (
  K2 [x29] H)) fun vs3 H =>
  MakeSlice 9 1 16 #[(.string ⟨#[]⟩)] (nth vs3 0) (nth vs3 0) H fun x35 H =>
  K1 [x35, (nth vs3 0)] H) (
  K1 [(.slice none 0 0), x29] H)) fun vs4 H =>
  NewMapH (nth vs4 1) H fun x37 H =>
  Fld 0 a0 H fun x42 =>
  CallsH Tryz.prog 169 #[x42, (.int .i64 1)] H fun x43 H =>
  Get (extractV x43 0) fun x44 =>
  Get (extractV x43 1) fun x45 =>
  Join (fun K5 =>
  Get (nilV2 .eql .nilIface x45) fun x47 =>
  Br x47 (
  Get (elemAddrV 1 x44 (.int .i64 0)) fun x50 =>
  Get (load1V x50 H) fun x51 =>
  Get (arithV .eql .u8 x51 (.int .u8 32)) fun x52 =>
  Br x52 (
  Get (pickV (.bool true) (.bool true) undef) fun x58 =>
  Get (pickV (.bool true) x58 (.bool false)) fun x59 =>
  K5 [x59] H) (
  Get (elemAddrV 1 x44 (.int .i64 0)) fun x55 =>
  Get (load1V x55 H) fun x56 =>
  Get (arithV .eql .u8 x56 (.int .u8 9)) fun x57 =>
  Get (pickV (.bool false) (.bool true) x57) fun x58_1 =>
  Get (pickV (.bool true) x58_1 (.bool false)) fun x59_1 =>
  K5 [x59_1] H)) (
  Get (pickV (.bool false) undef (.bool false)) fun x59_2 =>
  K5 [x59_2] H)) fun vs6 H =>
  Br (nth vs6 0) (
  CallsH Tryz.prog 170 #[a0, (.int .i64 80)] H fun x62 H =>
  Get (extractV x62 0) fun _ =>
  Get (extractV x62 1) fun x64 =>
  Get (nilV2 .neq .nilIface x64) fun x66 =>
  Br x66 (
  R (.tuple #[x37, x64]) H) (
  Get (some (Value.iface 261 (.string ⟨#[109, 97, 108, 102, 111, 114, 109, 101, 100, 32, 77, 73, 77, 69, 32, 104, 101, 97, 100, 101, 114, 32, 105, 110, 105, 116, 105, 97, 108, 32, 108, 105, 110, 101]⟩))) fun x70 =>
  R (.tuple #[x37, x70]) H)) (
  Loop [a1, a2, (nth vs4 0)] H fun K7 vs8 H =>
  CallsH Tryz.prog 171 #[a0, (nth vs8 0), (.func (.func 172) #[] #[])] H fun x74 H =>
  Get (extractV x74 0) fun x75 =>
  Get (extractV x74 1) fun x76 =>
  Get (lenV x75) fun x78 =>
  Get (arithV .eql .i64 x78 (.int .i64 0)) fun x79 =>
  Br x79 (
  R (.tuple #[x37, x76]) H) (
  Get (Instr.fill (fun j => some (j * 1, 1)) ((Array.range (1 * 1)).map ((#[(.int .u8 0)] : Array Value)[· % 1]!)) [(0, (.int .u8 58))]) fun cs => NewSl cs 5 1 H fun x84 H =>
  MarkS x84 H fun x85 H =>
  CallsH Tryz.prog 173 #[x75, x85] H fun x86 H =>
  Get (extractV x86 0) fun x87 =>
  Get (extractV x86 1) fun x88 =>
  Get (extractV x86 2) fun x89 =>
  Get (unV .not x89) fun x91 =>
  Br x91 (
  Get (some (Value.iface 261 (.string ⟨#[109, 97, 108, 102, 111, 114, 109, 101, 100, 32, 77, 73, 77, 69, 32, 104, 101, 97, 100, 101, 114, 32, 108, 105, 110, 101]⟩))) fun x93 =>
  R (.tuple #[x37, x93]) H) (
  CallsH Tryz.prog 84 #[x87] H fun x96 H =>
  Get (extractV x96 0) fun x97 =>
  Get (extractV x96 1) fun x98 =>
  Get (unV .not x98) fun x100 =>
  Br x100 (
  Get (some (Value.iface 261 (.string ⟨#[109, 97, 108, 102, 111, 114, 109, 101, 100, 32, 77, 73, 77, 69, 32, 104, 101, 97, 100, 101, 114, 32, 108, 105, 110, 101]⟩))) fun x102 =>
  R (.tuple #[x37, x102]) H) (
  Get (lenV x88) fun x104 =>
  Loop [(.int .i64 0)] H fun K9 vs10 H =>
  Get (arithV .lss .i64 (nth vs10 0) x104) fun x106 =>
  Br x106 (
  Get (elemAddrV 1 x88 (nth vs10 0)) fun x107 =>
  Get (load1V x107 H) fun x108 =>
  CallsH Tryz.prog 174 #[x108] H fun x110 H =>
  Get (unV .not x110) fun x111 =>
  Br x111 (
  Get (some (Value.iface 261 (.string ⟨#[109, 97, 108, 102, 111, 114, 109, 101, 100, 32, 77, 73, 77, 69, 32, 104, 101, 97, 100, 101, 114, 32, 108, 105, 110, 101]⟩))) fun x113 =>
  R (.tuple #[x37, x113]) H) (
  Get (arithV .add .i64 (nth vs10 0) (.int .i64 1)) fun x114 =>
  K9 [x114] H)) (
  Get (arithV .sub .i64 (nth vs8 1) (.int .i64 1)) fun x116 =>
  Get (arithV .lss .i64 x116 (.int .i64 0)) fun x118 =>
  Br x118 (
  Get (load1V (.pointer (some ⟨22, 0, none⟩)) H) fun x119 =>
  R (.tuple #[(.map none), x119]) H) (
  CallsH Tryz.prog 175 #[x88, (.string ⟨#[32, 9]⟩)] H fun x121 H =>
  Get (bytesV x121 H) fun x122 =>
  ExecV Tryz.prog (Instr.lookup 82 x37 x97 false) H fun x125 H =>
  Join (fun K11 =>
  Get (nilV2 .eql (.slice none 0 0) x125) fun x127 =>
  Br x127 (
  Get (lenStrV x97) fun x130 =>
  Get (arithV .sub .i64 (nth vs8 0) x130) fun x131 =>
  Get (arithV .sub .i64 x131 (.int .i64 200)) fun x133 =>
  K11 [x133] H) (
  K11 [(nth vs8 0)] H)) fun vs12 H =>
  Get (lenStrV x122) fun x136 =>
  Get (arithV .sub .i64 (nth vs12 0) x136) fun x137 =>
  Get (arithV .lss .i64 x137 (.int .i64 0)) fun x139 =>
  Br x139 (
  Get (load1V (.pointer (some ⟨22, 0, none⟩)) H) fun x141 =>
  R (.tuple #[x37, x141]) H) (
  Join (fun K13 =>
  Join (fun K14 =>
  Get (nilV2 .eql (.slice none 0 0) x125) fun x143 =>
  Br x143 (
  Get (lenV (nth vs8 2)) fun x146 =>
  Get (arithV .gtr .i64 x146 (.int .i64 0)) fun x147 =>
  Get (pickV (.bool true) x147 (.bool false)) fun x148 =>
  K14 [x148] H) (
  Get (pickV (.bool false) undef (.bool false)) fun x148_1 =>
  K14 [x148_1] H)) fun vs15 H =>
  Br (nth vs15 0) (
  Get (sliceV 1 (nth vs8 2) none (some (.int .i64 1)) (some (.int .i64 1))) fun x150 =>
  Get (sliceV 1 (nth vs8 2) (some (.int .i64 1)) none none) fun x152 =>
  Get (elemAddrV 1 x150 (.int .i64 0)) fun x155 =>
  Get (store1V x155 x122 H) fun H =>
  ExecV Tryz.prog (do Instr.mapUpdate 82 x37 x97 x150; pure undef) H fun u H =>
  K13 [x152] H) (
  Get (Instr.fill (fun j => some (j * 1, 1)) ((Array.range (1 * 1)).map ((#[(.string ⟨#[]⟩)] : Array Value)[· % 1]!)) [(0, x122)]) fun cs => NewSl cs 9 1 H fun x163 H =>
  Append 9 1 16 #[(.string ⟨#[]⟩)] x125 x163 H fun x164 H =>
  ExecV Tryz.prog (do Instr.mapUpdate 82 x37 x97 x164; pure undef) H fun u H =>
  K13 [(nth vs8 2)] H)) fun vs16 H =>
  Get (nilV2 .neq .nilIface x76) fun x166 =>
  Br x166 (
  R (.tuple #[x37, x76]) H) (
  K7 [x137, x116, (nth vs16 0)] H)))))))))
def p164 : Plan := .seq (.leaf []) (.seq (.seq (.leaf []) (.cond (.seq (.leaf [0, 1, 2]) (.leaf [])) (.leaf []))) (.seq (.leaf []) (.seq (.leaf []) (.join [8, 9] (.seq (.leaf []) (.cond (.join [9] (.seq (.leaf []) (.cond (.leaf []) (.leaf []))) (.leaf [])) (.leaf []))) (.seq (.leaf []) (.seq (.seq (.leaf []) (.join [59] (.leaf []) (.cond (.seq (.leaf []) (.seq (.seq (.leaf []) (.cond (.seq (.leaf []) (.leaf [])) (.leaf []))) (.seq (.leaf []) (.leaf [])))) (.leaf [])))) (.block (.loop [1, 2, 8] (.block (.seq (.leaf []) (.seq (.seq (.leaf []) (.cond (.seq (.leaf []) (.leaf [])) (.leaf []))) (.seq (.leaf []) (.seq (.seq (.leaf []) (.cond (.seq (.leaf []) (.leaf [])) (.leaf []))) (.seq (.leaf []) (.seq (.seq (.leaf []) (.cond (.seq (.leaf []) (.leaf [])) (.leaf []))) (.seq (.seq (.leaf []) (.block (.loop [105] (.seq (.leaf []) (.seq (.cond (.leaf []) (.leaf [])) (.seq (.block (.seq (.leaf []) (.seq (.leaf []) (.cond (.seq (.leaf []) (.leaf [])) (.leaf []))))) (.leaf []))))))) (.seq (.leaf []) (.seq (.seq (.leaf []) (.cond (.seq (.leaf [0, 1, 2]) (.leaf [])) (.leaf []))) (.seq (.leaf []) (.seq (.leaf []) (.join [1] (.seq (.leaf []) (.cond (.seq (.leaf []) (.leaf [])) (.leaf []))) (.seq (.leaf []) (.seq (.seq (.leaf []) (.cond (.seq (.leaf [0, 1, 2, 3]) (.leaf [])) (.leaf []))) (.join [8] (.join [148] (.leaf []) (.cond (.seq (.leaf [0, 1, 2, 3, 4, 5]) (.seq (.leaf []) (.leaf []))) (.leaf []))) (.seq (.leaf []) (.cond (.seq (.leaf []) (.leaf [])) (.leaf [])))))))))))))))))))))))))))
theorem s164 {a0 a1 a2 : Value} {H : Heap} {R : Value → Heap → Prop} (h : c164 a0 a1 a2 H R) : CallsH Tryz.prog 151 #[a0, a1, a2] H R :=
  callsH_of_eq p164 (fn := Tryz.f151) (c := Tryz.f151.body.getD .skip) (args := [a0, a1, a2]) Tryz.func151 (by kernel_rfl) mixed (by kernel_rfl) (by kernel_rfl) (by kernel_rfl) h
end Go.Cps
namespace Go.Cps
open Go Go.Proofs
def Full4 (H : Heap) : Prop := ∃ tt v t f, H[1]? = some (.cells #[.iface tt v] t f)
theorem Full4.load {H : Heap} (h : Full4 H) : ∃ tt v, cellH H ⟨1, 0, none⟩ = some (.iface tt v) := by
  obtain ⟨tt, v, t, f, h⟩ := h
  exact ⟨tt, v, by rw [cellH_of h]; rfl⟩
theorem readLine_ok {S : Stk} {s : St} {H : Heap} {p q : List UInt8} (h : RdAt S s H) (h4 : Full4 H) (h40 : 1 ∉ S.ids) (hr : s.rest S = p ++ 13 :: 10 :: q) (hp : 10 ∉ p) (hl : p.length ≤ 4000) :
    CallsH Tryz.prog 185 #[.pointer (some ⟨S.b, 0, none⟩)] H fun x H' => ∃ u s', x = .tuple #[u, .bool false, .nilIface] ∧ RdAt S s' H' ∧ IsBytes H' u p ∧ s'.rest S = q ∧ Rng u S.bf s'.r ∧ Frm S.ids H H' ∧ H'.size = H.size := by
  apply s174
  unfold c174
  refine (line_ok (p := p ++ [13]) (q := q) h (by rw [hr]; simp) (by simp; exact hp) (by simp; omega)).mono ?_
  rintro x H1 ⟨u, s1, rfl, h1, hu, hr1, hub, f1, z1⟩
  have h41 : Full4 H1 := by
    obtain ⟨tt, v, t, f, h⟩ := h4
    exact ⟨tt, v, t, f, f1.get h h40⟩
  obtain ⟨tt, v, hv⟩ := h41.load
  have hlen : ((p ++ [13]) ++ [10]).length = p.length + 2 := by simp
  have e0 : ((((p.length + 2 : Nat)) : Int) == 0) = false := by rw [beq_eq_false_iff_ne]; omega
  have e1 : IntKind.i64.wrap (((p.length + 2 : Nat) : Int) - 1) = ((p.length + 1 : Nat) : Int) := by rw [wrap_i64 (by omega) (by omega)]; omega
  have e2 : IntKind.i64.wrap (((p.length + 2 : Nat) : Int) - 2) = ((p.length : Nat) : Int) := by rw [wrap_i64 (by omega) (by omega)]; omega
  have d1 : decide (((p.length + 2 : Nat) : Int) > 1) = true := by simp; omega
  obtain ⟨a1, ha1, hc1⟩ := elem_at hu (i := p.length + 1) (by rw [hlen]; omega) (by rw [hlen]; omega)
  obtain ⟨a2, ha2, hc2⟩ := elem_at hu (i := p.length) (by rw [hlen]; omega) (by rw [hlen]; omega)
  have b1 : ((p ++ [13]) ++ [10])[p.length + 1]'(by rw [hlen]; omega) = 10 := by simp [List.getElem_append_right]
  have b2 : ((p ++ [13]) ++ [10])[p.length]'(by rw [hlen]; omega) = 13 := by simp [List.getElem_append_right]
  rw [b1] at hc1
  rw [b2] at hc2
  have hlv := hu.len
  rw [hlen] at hlv
  obtain ⟨y, hy, hyb, hyk⟩ := hu.upto (j := p.length) (by rw [hlen]; omega) .i64
  rw [List.append_assoc, List.take_left] at hyb
  simp only [Q0, Q1, Q2, Q3, Q4, Q5, Q6, Q7, Q8, Q9, Qa, Qb, Qc, Qd, Qe, Qf, Qg, Qh, Qi, Qj, Qk, Ql, Qm, Qn, Qo, Qp, Qq, Qr, Qs, hv, eq_nil, hlv, e0]
  refine ⟨fun vs H' => vs = [y] ∧ H' = H1, ?_, ?_⟩
  · simp only [Q0, Q1, Q2, Q3, Q4, Q5, Q6, Q7, Q8, Q9, Qa, Qb, Qc, Qd, Qe, Qf, Qg, Qh, Qi, Qj, Qk, Ql, Qm, Qn, Qo, Qp, Qq, Qr, Qs, hlv, e1, ha1, hc1, byteV, show (((10 : UInt8).toNat : Int) == 10) = true from rfl]
    refine ⟨fun vs H' => vs = [.int .i64 2] ∧ H' = H1, ?_, ?_⟩
    · refine ⟨fun vs H' => vs = [.bool true] ∧ H' = H1, ?_, ?_⟩
      · simp only [Q0, Q1, Q2, Q3, Q4, Q5, Q6, Q7, Q8, Q9, Qa, Qb, Qc, Qd, Qe, Qf, Qg, Qh, Qi, Qj, Qk, Ql, Qm, Qn, Qo, Qp, Qq, Qr, Qs, hlv, d1, e2, ha2, hc2, byteV, show (((13 : UInt8).toNat : Int) == 13) = true from rfl, if_true, and_self]
      · rintro _ _ ⟨rfl, rfl⟩
        simp only [Q0, Q1, Q2, Q3, Q4, Q5, Q6, Q7, Q8, Q9, Qa, Qb, Qc, Qd, Qe, Qf, Qg, Qh, Qi, Qj, and_self]
    · rintro _ H1 ⟨rfl, rfl⟩
      simp only [Q0, Q1, Q2, Q3, Q4, Q5, Q6, Q7, Q8, Q9, Qa, Qb, Qc, Qd, Qe, Qf, Qg, Qh, Qi, Qj, Qk, Ql, Qm, Qn, Qo, Qp, Qq, Qr, Qs, hlv, e2, hy, and_self]
  · rintro _ H1 ⟨rfl, rfl⟩
    simp only [Q0, Q1, Q2, Q3, Q4, Q5, Q6, Q7, Q8, Q9, Qa, Qb, Qc, Qd, Qe, Qf, Qg, Qh, Qi, Qj]
    exact ⟨y, s1, rfl, h1, hyb, hr1, hyk.2 _ _ hub, f1, z1⟩
def TR (S : Stk) (tr : Nat) (buf : Value) (H : Heap) : Prop := H[tr]? = some (.cells #[.pointer (some ⟨S.b, 0, none⟩), .pointer none, buf] 199 (0, 0))
theorem lineSlice_ok {S : Stk} {s : St} {H : Heap} {tr : Nat} {tbuf : Value} {p q : List UInt8} {lim : Int} (ht : TR S tr tbuf H) (h : RdAt S s H) (h4 : Full4 H) (h40 : 1 ∉ S.ids) (hr : s.rest S = p ++ 13 :: 10 :: q) (hp : 10 ∉ p) (hl : p.length ≤ 4000) (hlim : (p.length : Int) ≤ lim) :
    CallsH Tryz.prog 170 #[.pointer (some ⟨tr, 0, none⟩), .int .i64 lim] H fun x H' => ∃ u s', x = .tuple #[u, .nilIface] ∧ RdAt S s' H' ∧ IsBytes H' u p ∧ s'.rest S = q ∧ Rng u S.bf s'.r ∧ Frm S.ids H H' ∧ H'.size = H.size := by
  apply s167
  unfold c167
  apply s173
  simp only [c173, Q0, Q1, Q2, Q3, Q4, Q5, Q6, Q7, Q8, Q9, Qa, Qb, Qc, Qd, Qe, Qf, Qg, Qh, Qi, Qj, cellH_of ht, nilV2_eql_ptr, Option.isNone_none]
  refine ⟨fun n vs H' => vs = [.slice none 0 0] ∧ H' = H, ⟨0, rfl, rfl⟩, ?_⟩
  rintro n vs H ⟨rfl, rfl⟩
  simp only [Q0, Q1, Q2, Q3, Q4, Q5, Q6, Q7, Q8, Q9, Qa, Qb, Qc, Qd, Qe, Qf, Qg, Qh, Qi, Qj, cellH_of ht]
  refine (readLine_ok h h4 h40 hr hp hl).mono ?_
  rintro x H1 ⟨u, s1, rfl, h1, hu, hr1, hub, f1, z1⟩
  simp only [Q0, Q1, Q2, Q3, Q4, Q5, Q6, Q7, Q8, Q9, Qa, Qb, Qc, Qd, Qe, Qf, Qg, Qh, Qi, Qj, nilV2_neq_nil]
  have e1 : IntKind.i64.wrap (((0 : Nat) : Int) + (p.length : Int)) = (p.length : Int) := by rw [wrap_i64 (by omega) (by omega)]; omega
  have d1 : decide ((p.length : Int) > lim) = false := by simp; omega
  have d2 : decide (lim ≥ 0) = true := by simp; omega
  refine Join_direct ?_
  simp only [Qk, Ql, Qm, Qn, Qo, Qp, Qq, Qr, Qs, Q0, Q1, Q2, Q3, Q4, Q5, Q6, Q7, Q8, Q9, Qa, Qb, Qc, Qd, Qe, Qf, Qg, Qh, Qi, Qj, d2, hu.len, e1, d1, if_true]
  refine Join_direct ?_
  simp only [nilV2_eql_slice, Option.isNone_none, Q0, Q1, Q2, Q3, Q4, Q5, Q6, Q7, Q8, Q9, Qa, Qb, Qc, Qd, Qe, Qf, Qg, Qh, Qi, Qj, Bool.not_false, if_true]
  exact ⟨u, s1, rfl, h1, hu, hr1, hub, f1, z1⟩
def trimB (l : List UInt8) : List UInt8 := ((l.dropWhile lws).reverse.dropWhile lws).reverse
theorem colon_ok {v : Value} {l : List UInt8} {H : Heap} (hv : IsBytes H v l) (hc : 58 ∈ l) : CallsH Tryz.prog 172 #[v] H fun x H' => x = .nilIface ∧ H' = H := by
  apply s169
  unfold c169
  refine (indexByte_ok hv 58).mono ?_
  rintro x H' ⟨rfl, rfl⟩
  have : ∃ i : Nat, idx l 58 = i := by
    unfold idx
    cases hi : l.findIdx? (· == 58) with
    | some i => exact ⟨i, rfl⟩
    | none =>
      rw [List.findIdx?_eq_none_iff] at hi
      have := hi 58 hc
      simp at this
  obtain ⟨i, hi⟩ := this
  have d : decide ((i : Int) < 0) = false := by simp
  simp only [hi, Qk, Ql, Qm, Qn, Qo, Qp, Qq, Qr, Qs, Q0, Q1, Q2, Q3, Q4, Q5, Q6, Q7, Q8, Q9, Qa, Qb, Qc, Qd, Qe, Qf, Qg, Qh, Qi, Qj, d, and_self]
end Go.Cps
namespace Go.Cps
open Go Go.Proofs
theorem dropWhile_of {l : List UInt8} {i : Nat} (hi : i ≤ l.length) (h1 : (l.take i).all lws = true) (h2 : ∀ h : i < l.length, lws l[i] = false) : l.dropWhile lws = l.drop i := by
  induction l generalizing i with
  | nil => simp
  | cons a r ih =>
    cases i with
    | zero =>
      have := h2 (by simp)
      simp only [List.getElem_cons_zero] at this
      rw [List.dropWhile_cons, if_neg (by simp [this]), List.drop_zero]
    | succ i =>
      simp only [List.take_succ_cons, List.all_cons, Bool.and_eq_true] at h1
      rw [List.dropWhile_cons, if_pos h1.1, List.drop_succ_cons]
      exact ih (by simpa using hi) h1.2 (fun h => by
        have := h2 (by simpa using h)
        simpa using this)
theorem trimR_of {m : List UInt8} {k : Nat} (hk : k ≤ m.length) (h1 : (m.drop k).all lws = true) (h2 : ∀ h : 0 < k, lws (m[k - 1]'(by omega)) = false) : (m.reverse.dropWhile lws).reverse = m.take k := by
  have hl : m.reverse.length = m.length := by simp
  have e : m.reverse.dropWhile lws = m.reverse.drop (m.length - k) := by
    apply dropWhile_of (by simp)
    · rw [List.take_reverse, show m.length - (m.length - k) = k by omega, List.all_reverse]
      exact h1
    · intro h
      rw [List.getElem_reverse]
      have h3 : 0 < k := by rw [hl] at h; omega
      have := h2 h3
      simp only [show m.length - 1 - (m.length - k) = k - 1 by omega]
      exact this
  rw [e, List.drop_reverse, List.reverse_reverse]
  congr 1
  omega
theorem trim_ok {v : Value} {l : List UInt8} {H : Heap} (hv : IsBytes H v l) (hl : l.length < 2 ^ 40) : CallsH Tryz.prog 187 #[v] H fun x H' => H' = H ∧ IsBytes H x (trimB l) ∧ SubS x v := by
  apply s176
  unfold c176
  refine ⟨fun n vs H' => ∃ i : Nat, vs = [.int .i64 i] ∧ n = l.length - i ∧ i ≤ l.length ∧ H' = H ∧ (l.take i).all lws = true, ⟨_, 0, rfl, rfl, Nat.zero_le _, rfl, by simp⟩, ?_⟩
  rintro n vs H ⟨i, rfl, rfl, hi, rfl, hall⟩
  have dd : ∀ a b : Nat, decide ((a : Int) < (b : Int)) = decide (a < b) := fun a b => by simp
  refine ⟨fun vs H' => H' = H ∧ ∃ c : Bool, vs = [.bool c] ∧ (c = true → ∃ h : i < l.length, lws l[i] = true) ∧ (c = false → ∀ h : i < l.length, lws l[i] = false), ?_, ?_⟩
  · simp only [hv.len, Q0, Q1, Q2, Q3, Q4, Q5, Q6, Q7, Q8, Q9, Qa, Qb, Qc, Qd, Qe, Qf, Qg, Qh, Qi, Qj, Qk, Ql, Qm, Qn, Qo, Qp, Qq, Qr, Qs, dd]
    refine Br_intro (fun h0 => ?_) (fun h0 => ?_)
    · have hlt : i < l.length := by simpa using h0
      obtain ⟨a, ha, hca⟩ := elem_at hv hlt hl
      have b32 : ((l[i].toNat : Int) == 32) = (l[i] == 32) := byte_beq l[i] 32
      have b9 : ((l[i].toNat : Int) == 9) = (l[i] == 9) := byte_beq l[i] 9
      simp only [ha, hca, Q0, Q1, Q2, Q3, Q4, Q5, Q6, Q7, Q8, Q9, Qa, Qb, Qc, Qd, Qe, Qf, Qg, Qh, Qi, Qj, byteV, Qk, Ql, Qm, Qn, Qo, Qp, Qq, Qr, Qs, b32, b9]
      refine Br_intro (fun h1 => ?_) (fun h1 => ?_) <;> simp only [Q0, Q1, Q2, Q3, Q4, Q5, Q6, Q7, Q8, Q9, Qa, Qb, Qc, Qd, Qe, Qf, Qg, Qh, Qi, Qj, if_true, Bool.false_eq_true, if_false]
      · exact ⟨trivial, true, rfl, fun _ => ⟨hlt, by simp [lws, h1]⟩, fun h => by cases h⟩
      · refine ⟨trivial, _, rfl, fun h => ⟨hlt, by simp [lws, h]⟩, fun h _ => by simp [lws, h, h1]⟩
    · simp only [Q0, Q1, Q2, Q3, Q4, Q5, Q6, Q7, Q8, Q9, Qa, Qb, Qc, Qd, Qe, Qf, Qg, Qh, Qi, Qj, Bool.false_eq_true, if_false]
      refine ⟨trivial, false, rfl, (fun h => by cases h), fun _ h => ?_⟩
      simp [h] at h0
  · rintro _ H ⟨rfl, c, rfl, hc1, hc2⟩
    simp only [Q0, Q1, Q2, Q3, Q4, Q5, Q6, Q7, Q8, Q9, Qa, Qb, Qc, Qd, Qe, Qf, Qg, Qh, Qi, Qj]
    refine Br_intro (fun h => ?_) (fun h => ?_)
    · obtain ⟨hlt, hw⟩ := hc1 h
      have e1 : IntKind.i64.wrap ((i : Int) + 1) = ((i + 1 : Nat) : Int) := by rw [wrap_i64 (by omega) (by omega)]; omega
      simp only [Qk, Ql, Qm, Qn, Qo, Qp, Qq, Qr, Qs, Q0, Q1, Q2, Q3, Q4, Q5, Q6, Q7, Q8, Q9, Qa, Qb, Qc, Qd, Qe, Qf, Qg, Qh, Qi, Qj, e1]
      refine ⟨_, by omega, i + 1, rfl, rfl, hlt, trivial, ?_⟩
      rw [List.take_succ_eq_append_getElem hlt, List.all_append, hall]
      simp [hw]
    · have hdw := dropWhile_of hi hall (hc2 h)
      obtain ⟨y, hy, hyb, hyk⟩ := hv.from2 hi .i64
      rw [← hdw] at hyb
      generalize hm : l.dropWhile lws = m at *
      have hml : m.length ≤ l.length := by rw [hdw]; simp
      have e0 : IntKind.i64.wrap ((m.length : Int) - 1) = (m.length : Int) - 1 := wrap_i64 (by omega) (by omega)
      simp only [hy, Q6, hyb.len, Qk, Ql, Qm, Qn, Qo, Qp, Qq, Qr, Qs, e0]
      refine ⟨fun n vs H' => ∃ k : Nat, vs = [.int .i64 ((k : Int) - 1)] ∧ n = k ∧ k ≤ m.length ∧ H' = H ∧ (m.drop k).all lws = true, ⟨_, m.length, rfl, rfl, Nat.le_refl _, rfl, by simp⟩, ?_⟩
      rintro k vs H ⟨_, rfl, rfl, hk, rfl, hall2⟩
      refine ⟨fun vs H' => H' = H ∧ ∃ c : Bool, vs = [.bool c] ∧ (c = true → ∃ h : 0 < k, lws (m[k - 1]'(by omega)) = true) ∧ (c = false → ∀ h : 0 < k, lws (m[k - 1]'(by omega)) = false), ?_, ?_⟩
      · simp only [Q0, Q1, Q2, Q3, Q4, Q5, Q6, Q7, Q8, Q9, Qa, Qb, Qc, Qd, Qe, Qf, Qg, Qh, Qi, Qj, Qk, Ql, Qm, Qn, Qo, Qp, Qq, Qr, Qs]
        refine Br_intro (fun h0 => ?_) (fun h0 => ?_)
        · have h0' : 0 < k := by simp at h0; omega
          obtain ⟨a, ha, hca⟩ := elem_at hyb (i := k - 1) (by omega) (by omega)
          rw [show ((k - 1 : Nat) : Int) = (k : Int) - 1 by omega] at ha
          have b32 : ((m[k - 1].toNat : Int) == 32) = (m[k - 1] == 32) := byte_beq m[k - 1] 32
          have b9 : ((m[k - 1].toNat : Int) == 9) = (m[k - 1] == 9) := byte_beq m[k - 1] 9
          simp only [ha, hca, Q0, Q1, Q2, Q3, Q4, Q5, Q6, Q7, Q8, Q9, Qa, Qb, Qc, Qd, Qe, Qf, Qg, Qh, Qi, Qj, byteV, Qk, Ql, Qm, Qn, Qo, Qp, Qq, Qr, Qs, b32, b9]
          refine Br_intro (fun h1 => ?_) (fun h1 => ?_) <;> simp only [Q0, Q1, Q2, Q3, Q4, Q5, Q6, Q7, Q8, Q9, Qa, Qb, Qc, Qd, Qe, Qf, Qg, Qh, Qi, Qj, if_true, Bool.false_eq_true, if_false]
          · exact ⟨trivial, true, rfl, fun _ => ⟨h0', by simp [lws, h1]⟩, fun h => by cases h⟩
          · refine ⟨trivial, _, rfl, fun h => ⟨h0', by simp [lws, h]⟩, fun h _ => by simp [lws, h, h1]⟩
        · simp only [Q0, Q1, Q2, Q3, Q4, Q5, Q6, Q7, Q8, Q9, Qa, Qb, Qc, Qd, Qe, Qf, Qg, Qh, Qi, Qj, Bool.false_eq_true, if_false]
          refine ⟨trivial, false, rfl, (fun h => by cases h), fun _ h => ?_⟩
          simp only [decide_eq_false_iff_not] at h0
          omega
      · rintro _ H ⟨rfl, c, rfl, hd1, hd2⟩
        simp only [Q0, Q1, Q2, Q3, Q4, Q5, Q6, Q7, Q8, Q9, Qa, Qb, Qc, Qd, Qe, Qf, Qg, Qh, Qi, Qj]
        refine Br_intro (fun h => ?_) (fun h => ?_)
        · obtain ⟨h0', hw⟩ := hd1 h
          have e1 : IntKind.i64.wrap ((k : Int) - 1 - 1) = ((k - 1 : Nat) : Int) - 1 := by rw [wrap_i64 (by omega) (by omega)]; omega
          simp only [Qk, Ql, Qm, Qn, Qo, Qp, Qq, Qr, Qs, Q0, Q1, Q2, Q3, Q4, Q5, Q6, Q7, Q8, Q9, Qa, Qb, Qc, Qd, Qe, Qf, Qg, Qh, Qi, Qj, e1]
          refine ⟨k - 1, by omega, k - 1, rfl, rfl, by omega, trivial, ?_⟩
          rw [List.drop_eq_getElem_cons (by omega : k - 1 < m.length), List.all_cons, hw, show k - 1 + 1 = k by omega, hall2]
          rfl
        · have htr := trimR_of hk hall2 (hd2 h)
          have e1 : IntKind.i64.wrap ((k : Int) - 1 + 1) = ((k : Nat) : Int) := by rw [wrap_i64 (by omega) (by omega)]; omega
          obtain ⟨z, hz, hzb, hzk⟩ := hyb.upto hk .i64
          simp only [Qk, Ql, Qm, Qn, Qo, Qp, Qq, Qr, Qs, Q0, Q1, Q2, Q3, Q4, Q5, Q6, Q7, Q8, Q9, Qa, Qb, Qc, Qd, Qe, Qf, Qg, Qh, Qi, Qj, e1, hz]
          refine ⟨trivial, ?_, hzk.trans hyk⟩
          rw [trimB, hm, htr]
          exact hzb
end Go.Cps
