/-
  A part of the proof (its texts: G9, L39, L46, L54): each text says below what it proves.
  Conditions: each contract's own.
-/
import Derived.Test.YtfajmapajpfocaaGreatDoorE4
import Derived.Test.YtfajmapajpfocaaGreatDoorE8
import Derived.Test.YtfajmapajpfocaaGreatDoorE19
import Derived.Test.YtfajmapajpfocaaGreatDoorE20
import Derived.Test.YtfajmapajpfocaaGreatDoorE21
set_option linter.all false
/-
  What the bodies of some functions of the program come to, at heap level, each proved of the program itself.
  Conditions: none. Written by gen.py.
-/
namespace Go.Cps
open Go Go.Proofs
set_option maxRecDepth 100000

/-- io.Copy -/
def c65 (a0 a1 : Value) (H : Heap) (R : Value → Heap → Prop) : Prop :=
  CallsH Tryz.prog 88 #[a0, a1, (.slice none 0 0)] H fun x8 H =>
  Get (extractV x8 0) fun x9 =>
  Get (extractV x8 1) fun x10 =>
  R (.tuple #[x9, x10]) H
def p65 : Plan := .seq (.leaf []) (.seq (.leaf []) (.leaf []))
theorem s65 {a0 a1 : Value} {H : Heap} {R : Value → Heap → Prop} (h : c65 a0 a1 H R) : CallsH Tryz.prog 65 #[a0, a1] H R :=
  callsH_of_eq p65 (fn := Tryz.f65) (c := Tryz.f65.body.getD .skip) (args := [a0, a1]) Tryz.func65 (by kernel_rfl) mixed (by kernel_rfl) (by kernel_rfl) (by kernel_rfl) h

/-- io.copyBuffer -/
def c88 (a0 a1 a2 : Value) (H : Heap) (R : Value → Heap → Prop) : Prop :=
  ExecV Tryz.prog (Instr.typeAssert a1 77 172 true) H fun x21 H =>
  Get (extractV x21 0) fun x22 =>
  Get (extractV x21 1) fun x23 =>
  Br x23 (
  Invoke Tryz.prog "WriteTo" x22 #[a0] H fun x27 H =>
  Get (extractV x27 0) fun x28 =>
  Get (extractV x27 1) fun x29 =>
  R (.tuple #[x28, x29]) H) (
  ExecV Tryz.prog (Instr.typeAssert a0 63 176 true) H fun x32 H =>
  Get (extractV x32 0) fun x33 =>
  Get (extractV x32 1) fun x34 =>
  Br x34 (
  Invoke Tryz.prog "ReadFrom" x33 #[a1] H fun x38 H =>
  Get (extractV x38 0) fun x39 =>
  Get (extractV x38 1) fun x40 =>
  R (.tuple #[x39, x40]) H) (
  Join (fun K1 =>
  Get (nilV2 .eql (.slice none 0 0) a2) fun x42 =>
  Br x42 (
  Join (fun K2 =>
  ExecV Tryz.prog (Instr.typeAssert a1 77 179 true) H fun x45 H =>
  Get (extractV x45 0) fun x46 =>
  Get (extractV x45 1) fun x47 =>
  Join (fun K3 =>
  Br x47 (
  Fld 1 x46 H fun x54 =>
  Get (arithV .gtr .i64 (.int .i64 32768) x54) fun x55 =>
  Get (pickV (.bool true) x55 (.bool false)) fun x56 =>
  K3 [x56] H) (
  Get (pickV (.bool false) undef (.bool false)) fun x56_1 =>
  K3 [x56_1] H)) fun vs4 H =>
  Br (nth vs4 0) (
  Fld 1 x46 H fun x60 =>
  Get (arithV .lss .i64 x60 (.int .i64 1)) fun x61 =>
  Br x61 (
  K2 [(.int .i64 1)] H) (
  Fld 1 x46 H fun x65 =>
  K2 [x65] H)) (
  K2 [(.int .i64 32768)] H)) fun vs5 H =>
  MakeSlice 5 1 1 #[(.int .u8 0)] (nth vs5 0) (nth vs5 0) H fun x67 H =>
  K1 [x67] H) (
  K1 [a2] H)) fun vs6 H =>
  Join (fun K7 =>
  Loop [(.int .i64 0), .nilIface] H fun K8 vs9 H =>
  Invoke Tryz.prog "Read" a1 #[(nth vs6 0)] H fun x71 H =>
  Get (extractV x71 0) fun x72 =>
  Get (extractV x71 1) fun x73 =>
  Join (fun K10 =>
  Get (arithV .gtr .i64 x72 (.int .i64 0)) fun x75 =>
  Br x75 (
  Get (sliceV 1 (nth vs6 0) (some (.int .i64 0)) (some x72) none) fun x80 =>
  Get (nilV (.func (.method "Write") #[a0] #[])) fun _ =>
  Invoke Tryz.prog "Write" a0 #[x80] H fun x84 H =>
  Get (extractV x84 0) fun x85 =>
  Get (extractV x84 1) fun x86 =>
  Join (fun K11 =>
  Join (fun K12 =>
  Get (arithV .lss .i64 x85 (.int .i64 0)) fun x88 =>
  Br x88 (
  Get (pickV (.bool true) (.bool true) undef) fun x93 =>
  K12 [x93] H) (
  Get (arithV .lss .i64 x72 x85) fun x92 =>
  Get (pickV (.bool false) (.bool true) x92) fun x93_1 =>
  K12 [x93_1] H)) fun vs13 H =>
  Br (nth vs13 0) (
  Get (nilV2 .eql .nilIface x86) fun x95 =>
  Br x95 (
  Get (load1V (.pointer (some ⟨2, 0, none⟩)) H) fun x96 =>
  K11 [(.int .i64 0), x96] H) (
  K11 [(.int .i64 0), x86] H)) (
  K11 [x85, x86] H)) fun vs14 H =>
  Get (arithV .add .i64 (nth vs9 0) (nth vs14 0)) fun x99 =>
  Get (nilV2 .neq .nilIface (nth vs14 1)) fun x101 =>
  Br x101 (
  K7 [x99, (nth vs14 1)] H) (
  Get (arithV .neq .i64 x72 (nth vs14 0)) fun x105 =>
  Br x105 (
  Get (load1V (.pointer (some ⟨3, 0, none⟩)) H) fun x106 =>
  K7 [x99, x106] H) (
  K10 [x99, (nth vs9 1)] H))) (
  K10 [(nth vs9 0), (nth vs9 1)] H)) fun vs15 H =>
  Get (nilV2 .neq .nilIface x73) fun x108 =>
  Br x108 (
  Join (fun K16 =>
  Get (load1V (.pointer (some ⟨0, 0, none⟩)) H) fun x110 =>
  ExecV Tryz.prog (do eqGuard .neq 60 (.tmp 109) (.tmp 110) x73 x110; binOp .neq 60 x73 x110) H fun x111 H =>
  Br x111 (
  K16 [x73] H) (
  K16 [(nth vs15 1)] H)) fun vs17 H =>
  K7 [(nth vs15 0), (nth vs17 0)] H) (
  K8 [(nth vs15 0), (nth vs15 1)] H)) fun vs18 H =>
  R (.tuple #[(nth vs18 0), (nth vs18 1)]) H))
def p88 : Plan := .seq (.leaf []) (.seq (.seq (.leaf []) (.seq (.leaf []) (.cond (.seq (.leaf []) (.leaf [])) (.leaf [])))) (.seq (.seq (.leaf []) (.seq (.leaf []) (.cond (.seq (.leaf []) (.leaf [])) (.leaf [])))) (.join [2] (.seq (.leaf []) (.cond (.seq (.leaf []) (.join [12] (.seq (.leaf []) (.join [56] (.leaf []) (.cond (.seq (.leaf []) (.cond (.leaf []) (.leaf []))) (.leaf [])))) (.leaf []))) (.leaf []))) (.join [6, 7] (.block (.loop [6, 7] (.block (.seq (.leaf []) (.join [6, 7] (.seq (.leaf []) (.cond (.seq (.leaf [0, 1, 2, 3, 4, 5, 6, 7, 8, 9, 10, 11, 12]) (.join [17, 18] (.join [93] (.leaf []) (.cond (.seq (.leaf []) (.seq (.leaf []) (.cond (.leaf []) (.leaf [])))) (.leaf []))) (.seq (.leaf []) (.seq (.seq (.leaf []) (.cond (.seq (.leaf []) (.leaf [])) (.leaf []))) (.seq (.leaf []) (.cond (.seq (.leaf []) (.leaf [])) (.leaf []))))))) (.leaf []))) (.seq (.leaf []) (.cond (.join [7] (.seq (.leaf []) (.cond (.leaf []) (.leaf []))) (.leaf [])) (.leaf [])))))))) (.seq (.leaf []) (.leaf []))))))
theorem s88 {a0 a1 a2 : Value} {H : Heap} {R : Value → Heap → Prop} (h : c88 a0 a1 a2 H R) : CallsH Tryz.prog 88 #[a0, a1, a2] H R :=
  callsH_of_eq p88 (fn := Tryz.f88) (c := Tryz.f88.body.getD .skip) (args := [a0, a1, a2]) Tryz.func88 (by kernel_rfl) mixed (by kernel_rfl) (by kernel_rfl) (by kernel_rfl) h

/-- (*bytes.Buffer).WriteTo -/
def c210 (a0 a1 : Value) (H : Heap) (R : Value → Heap → Prop) : Prop :=
  Get (nilV a0) fun x10 =>
  Get (fieldAddrV 2 x10) fun x11 =>
  Get (store1V x11 (.int .i8 0) H) fun H =>
  Join (fun K1 =>
  CallsH Tryz.prog 101 #[a0] H fun x13 H =>
  Get (arithV .gtr .i64 x13 (.int .i64 0)) fun x15 =>
  Br x15 (
  Fld 0 a0 H fun x21 =>
  Fld 1 a0 H fun x25 =>
  Get (sliceV 1 x21 (some x25) none none) fun x26 =>
  Get (nilV (.func (.method "Write") #[a1] #[])) fun _ =>
  Invoke Tryz.prog "Write" a1 #[x26] H fun x30 H =>
  Get (extractV x30 0) fun x31 =>
  Get (extractV x30 1) fun x32 =>
  Join (fun K2 =>
  Get (arithV .gtr .i64 x31 x13) fun x35 =>
  Br x35 (
  Get (some (Value.iface 9 (.string ⟨#[98, 121, 116, 101, 115, 46, 66, 117, 102, 102, 101, 114, 46, 87, 114, 105, 116, 101, 84, 111, 58, 32, 105, 110, 118, 97, 108, 105, 100, 32, 87, 114, 105, 116, 101, 32, 99, 111, 117, 110, 116]⟩))) fun _ =>
  False) (
  K2 [] H)) fun _ H =>
  Fld 1 a0 H fun x40 =>
  Get (arithV .add .i64 x40 x31) fun x42 =>
  Get (nilV a0) fun x43 =>
  Get (fieldAddrV 1 x43) fun x44 =>
  Get (store1V x44 x42 H) fun H =>
  Get (nilV2 .neq .nilIface x32) fun x47 =>
  Br x47 (
  R (.tuple #[x31, x32]) H) (
  Get (arithV .neq .i64 x31 x13) fun x52 =>
  Br x52 (
  Get (load1V (.pointer (some ⟨3, 0, none⟩)) H) fun x54 =>
  R (.tuple #[x31, x54]) H) (
  K1 [x31] H))) (
  K1 [(.int .i64 0)] H)) fun vs4 H =>
  CallsH Tryz.prog 102 #[a0] H fun _ H =>
  R (.tuple #[(nth vs4 0), .nilIface]) H
def p210 : Plan := .seq (.leaf []) (.seq (.leaf []) (.join [4] (.seq (.leaf []) (.seq (.leaf []) (.cond (.seq (.leaf [0, 1, 2, 3, 4, 5, 6, 7, 8, 9, 10, 11, 12, 13, 14, 15, 16, 17, 18]) (.join [] (.seq (.leaf []) (.cond (.leaf []) (.leaf []))) (.seq (.leaf []) (.seq (.leaf []) (.seq (.seq (.leaf []) (.cond (.seq (.leaf []) (.leaf [])) (.leaf []))) (.seq (.leaf []) (.cond (.seq (.leaf [0, 1, 2, 3]) (.leaf [])) (.leaf [])))))))) (.leaf [])))) (.seq (.leaf []) (.seq (.leaf []) (.leaf [])))))
theorem s210 {a0 a1 : Value} {H : Heap} {R : Value → Heap → Prop} (h : c210 a0 a1 H R) : CallsH Tryz.prog 210 #[a0, a1] H R :=
  callsH_of_eq p210 (fn := Tryz.f210) (c := Tryz.f210.body.getD .skip) (args := [a0, a1]) Tryz.func210 (by kernel_rfl) mixed (by kernel_rfl) (by kernel_rfl) (by kernel_rfl) h

/-- (*pub/multipart.part).Write -/
def c212 (a0 a1 : Value) (H : Heap) (R : Value → Heap → Prop) : Prop :=
  Fld 1 a0 H fun x9 =>
  Br x9 (
  CallsH Tryz.prog 60 #[(.string ⟨#[109, 117, 108, 116, 105, 112, 97, 114, 116, 58, 32, 99, 97, 110, 39, 116, 32, 119, 114, 105, 116, 101, 32, 116, 111, 32, 102, 105, 110, 105, 115, 104, 101, 100, 32, 112, 97, 114, 116]⟩)] H fun x10 H =>
  R (.tuple #[(.int .i64 0), x10]) H) (
  Fld 0 a0 H fun x15 =>
  Fld 0 x15 H fun x18 =>
  Invoke Tryz.prog "Write" x18 #[a1] H fun x20 H =>
  Get (extractV x20 0) fun x21 =>
  Get (extractV x20 1) fun x22 =>
  Join (fun K1 =>
  Get (nilV2 .neq .nilIface x22) fun x24 =>
  Br x24 (
  Get (nilV a0) fun x27 =>
  Get (fieldAddrV 2 x27) fun x28 =>
  Get (store1V x28 x22 H) fun H =>
  K1 [] H) (
  K1 [] H)) fun _ H =>
  R (.tuple #[x21, x22]) H)
def p212 : Plan := .seq (.leaf []) (.seq (.seq (.leaf []) (.cond (.seq (.leaf []) (.leaf [])) (.leaf []))) (.seq (.leaf []) (.join [] (.seq (.leaf []) (.cond (.leaf []) (.leaf []))) (.leaf []))))
theorem s212 {a0 a1 : Value} {H : Heap} {R : Value → Heap → Prop} (h : c212 a0 a1 H R) : CallsH Tryz.prog 212 #[a0, a1] H R :=
  callsH_of_eq p212 (fn := Tryz.f212) (c := Tryz.f212.body.getD .skip) (args := [a0, a1]) Tryz.func212 (by kernel_rfl) mixed (by kernel_rfl) (by kernel_rfl) (by kernel_rfl) h

end Go.Cps

/-
  io.Copy out of a bytes.Buffer into another one.
  Conditions: the first holds some bytes.
-/
namespace Go.Cps
open Go Go.Proofs

theorem assertRunW (v : Value) (w : World) : (Instr.typeAssert (.iface 58 v) 77 172 true).run Tryz.prog w = .ok (.tuple #[.iface 58 v, .bool true]) w := by kernel_rfl
section
attribute [local irreducible] Sem.run
theorem tassertW {r : Value} {H : Heap} {K : Value → Heap → Prop} : ExecV Tryz.prog (Instr.typeAssert (.iface 58 r) 77 172 true) H K = K (.tuple #[.iface 58 r, .bool true]) H := ExecV.eq fun w _ => assertRunW r w
end
theorem meth58W : methodRes Tryz.prog 58 "WriteTo" = some 210 := by kernel_rfl
theorem body210 : hasBody Tryz.prog 210 = true := by kernel_rfl

theorem nilV_method {name : String} {t : TypeId} {v : Value} (h : aheadP Tryz.prog t v name = true) : nilV (.func (.method name) #[.iface t v] #[]) = some (.func (.method name) #[.iface t v] #[]) := by
  unfold nilV nilVP
  simp [h]
theorem ahead58W (a : Addr) : aheadP Tryz.prog 58 (.pointer (some a)) "Write" = true := by kernel_rfl

theorem writeTo_ok {b ob : Nat} {k ko : Option Nat} {l lo : List UInt8} {H : Heap} (h : BufAt b k l H) (ho : BufAt ob ko lo H) (hne : b ≠ ob) (hb1 : ko ≠ some b) (hb2 : k ≠ some ob) (hkk : ∀ g, k = some g → ko ≠ some g) (hl : l ≠ []) (hlen : lo.length + l.length < 2 ^ 40) :
    CallsH Tryz.prog 210 #[.pointer (some ⟨b, 0, none⟩), .iface 58 (.pointer (some ⟨ob, 0, none⟩))] H fun x H' => x = .tuple #[.int .i64 l.length, .nilIface] ∧ ∃ k', BufAt ob k' (lo ++ l) H' ∧ Frm (b :: ob :: ko.toList) H H' ∧ (k' = ko ∨ ∃ g, k' = some g ∧ H.size ≤ g) := by
  have hpos : 0 < l.length := List.length_pos_iff.2 hl
  obtain ⟨sl, lr, hbc, hown⟩ := h
  apply s210
  simp only [c210, Fld_ptr, add_mk, Nat.zero_add, List.getElem?_toArray, List.getElem?_cons_succ, List.getElem?_cons_zero, Get_some, Br_true, Br_false, nth_zero, nth_one, nth_two, extractV_tuple, fieldAddrV_ptr, nilV_ptr, load1V_ptr, pickV_bool, unV_not, lenV_slice, capV_slice]
  refine Store_of hbc (by simp) rfl fun H1 hc1 f1 z1 => ?_
  simp only [List.setIfInBounds_toArray, List.set_cons_succ, List.set_cons_zero] at hc1
  have hown1 := hown.frm f1 (fun g hg => by simpa using hown.ne g hg)
  have ho1 := ho.frm f1 (by simpa using hne.symm) (fun g hg => by rw [List.mem_singleton]; rintro rfl; exact hb1 hg)
  obtain ⟨base, c, rfl, hlc, hcm⟩ := hown1.shape
  refine Join_direct ?_
  refine (len_ok hc1 (by omega)).mono ?_
  rintro x H1 ⟨rfl, rfl⟩
  have d0 : decide ((l.length : Int) > 0) = true := by simp; omega
  have s1 : sliceV 1 (.slice base l.length c) (some (.int .i64 0)) none none = some (.slice base l.length c) := by
    have := sliceV_lo (a := base) (n := l.length) (c := c) (size := 1) (lo := 0) (Nat.zero_le _) .i64
    rw [show ((0 : Nat) : Int) = 0 from rfl] at this
    rw [this]
    cases base with
    | none => simp
    | some a => simp [Addr.add]
  have hsb := hown1.bytes
  simp only [Fld_ptr, add_mk, Nat.zero_add, List.getElem?_toArray, List.getElem?_cons_succ, List.getElem?_cons_zero, Get_some, Br_true, Br_false, nth_zero, nth_one, nth_two, extractV_tuple, fieldAddrV_ptr, nilV_ptr, load1V_ptr, pickV_bool, unV_not, lenV_slice, capV_slice, arithV_add, arithV_sub, arithV_eql, arithV_neq, arithV_lss, arithV_leq, arithV_gtr, arithV_geq, intConvV_int, d0, cellH_of hc1, s1, nilV_method (ahead58W _)]
  refine invoke_of 209 meth58 body209 ?_
  refine (bufWrite_ok ho1 hsb (fun y hy => ?_) hlen).mono ?_
  · rintro rfl
    cases k with
    | none => have := hown1.1; rw [this] at hy; simp [blk] at hy
    | some g =>
      obtain ⟨cells, h1, _⟩ := hown1
      rw [h1] at hy
      simp only [blk, Option.some.injEq] at hy
      exact hb2 (by rw [hy])
  rintro x H2 ⟨rfl, k', ho2, f2, hk'⟩
  have hc2 := f2.get hc1 (fun hm => by
    rcases List.mem_cons.1 hm with h | h
    · exact hne h
    · exact hb1 (by simpa using h))
  have d1 : decide ((l.length : Int) > (l.length : Int)) = false := by simp
  simp only [Fld_ptr, add_mk, Nat.zero_add, List.getElem?_toArray, List.getElem?_cons_succ, List.getElem?_cons_zero, Get_some, Br_true, Br_false, nth_zero, nth_one, nth_two, extractV_tuple, fieldAddrV_ptr, nilV_ptr, load1V_ptr, pickV_bool, unV_not, lenV_slice, capV_slice, arithV_add, arithV_sub, arithV_eql, arithV_neq, arithV_lss, arithV_leq, arithV_gtr, arithV_geq, intConvV_int, d1]
  refine Join_direct ?_
  have e1 : IntKind.i64.wrap (0 + (l.length : Int)) = (l.length : Int) := by rw [wrap_i64 (by omega) (by omega)]; omega
  simp only [Fld_ptr, add_mk, Nat.zero_add, List.getElem?_toArray, List.getElem?_cons_succ, List.getElem?_cons_zero, Get_some, Br_true, Br_false, nth_zero, nth_one, nth_two, extractV_tuple, fieldAddrV_ptr, nilV_ptr, load1V_ptr, pickV_bool, unV_not, lenV_slice, capV_slice, arithV_add, arithV_sub, arithV_eql, arithV_neq, arithV_lss, arithV_leq, arithV_gtr, arithV_geq, intConvV_int, cellH_of hc2, e1]
  refine Store_of hc2 (by simp) rfl fun H3 hc3 f3 z3 => ?_
  simp only [List.setIfInBounds_toArray, List.set_cons_succ, List.set_cons_zero] at hc3
  have d2 : (((l.length : Nat) : Int) != ((l.length : Nat) : Int)) = false := by simp
  simp only [nilV2_neq_nil, Fld_ptr, add_mk, Nat.zero_add, List.getElem?_toArray, List.getElem?_cons_succ, List.getElem?_cons_zero, Get_some, Br_true, Br_false, nth_zero, nth_one, nth_two, extractV_tuple, fieldAddrV_ptr, nilV_ptr, load1V_ptr, pickV_bool, unV_not, lenV_slice, capV_slice, arithV_add, arithV_sub, arithV_eql, arithV_neq, arithV_lss, arithV_leq, arithV_gtr, arithV_geq, intConvV_int, d2]
  apply s102
  have s2 : sliceV 1 (.slice base l.length c) none (some (.int .i64 0)) none = some (.slice base 0 c) := sliceV_hi (hi := 0) (Nat.zero_le _) .i64
  simp only [c102, Fld_ptr, add_mk, Nat.zero_add, List.getElem?_toArray, List.getElem?_cons_succ, List.getElem?_cons_zero, Get_some, Br_true, Br_false, nth_zero, nth_one, nth_two, extractV_tuple, fieldAddrV_ptr, nilV_ptr, load1V_ptr, pickV_bool, unV_not, lenV_slice, capV_slice, cellH_of hc3, s2]
  refine Store_of hc3 (by simp) rfl fun H4 hc4 f4 z4 => ?_
  simp only [List.setIfInBounds_toArray, List.set_cons_succ, List.set_cons_zero] at hc4
  refine Store_of hc4 (by simp) rfl fun H5 hc5 f5 z5 => ?_
  simp only [List.setIfInBounds_toArray, List.set_cons_succ, List.set_cons_zero] at hc5
  refine Store_of hc5 (by simp) rfl fun H6 hc6 f6 z6 => ?_
  have f36 : Frm [b] H2 H6 := ((f3.trans f4).trans f5).trans f6
  refine ⟨trivial, k', ho2.frm f36 (by simpa using hne.symm) (fun g hg => ?_), ?_, ?_⟩
  · rw [List.mem_singleton]
    rintro rfl
    rcases hk' with h | ⟨g', h, hge⟩
    · exact hb1 (by rw [← h, hg])
    · rw [hg] at h; cases h
      have := lt_of_some hc1
      omega
  · exact ((f1.mono (by simp)).trans (f2.mono (fun x hx => List.mem_cons_of_mem _ hx))).trans (f36.mono (by simp))
  · rcases hk' with h | ⟨g', h, hge⟩
    · exact .inl h
    · exact .inr ⟨g', h, by omega⟩
end Go.Cps

/-
  nextPart in general: the current part is closed, lines are read up to a delimiter.
  Conditions: each contract's own.
-/
namespace Go.Cps
open Go Go.Proofs

/-- what is left to read when the current part (if there is one) has been closed -/
def Closes (S : Stk) (mr tb : Nat) (m : MRf) (bd : List UInt8) (B : Nat) (ea ua : Addr) (r : List UInt8) (X : List Nat) (H : Heap) : Prop :=
  (m.cur = .pointer none ∧ ∃ s, PR S mr tb m bd B ea ua s H ∧ s.rest S = r) ∨
  ∃ p, m.cur = .pointer (some p) ∧ H[mr]? = some (.cells m.cells 127 (0, 0)) ∧ CallsH Tryz.prog 92 #[.pointer (some p)] H fun _ H' => ∃ s, PR S mr tb m bd B ea ua s H' ∧ s.rest S = r ∧ Frm (X ++ S.ids) H H'

theorem delim_line {bd : List UInt8} : delimLine ([45, 45] ++ bd ++ [13, 10]) ([45, 45] ++ bd) [13, 10] = true := by
  simp only [delimLine, prefix_self, List.drop_left, Bool.true_and]
  decide

theorem PR.parts {S : Stk} {mr tb : Nat} {m : MRf} {bd : List UInt8} {B : Nat} {ea ua : Addr} {s : St} {H H' : Heap} {v : Int} (h : PR S mr tb m bd B ea ua s H) (hm : H'[mr]? = some (.cells { m with parts := v }.cells 127 (0, 0))) (f : Frm [mr] H H') (hz : H'.size = H.size) : PR S mr tb { m with parts := v } bd B ea ua s H' := by
  have hne : ∀ x ∈ S.ids, x ∉ [mr] := fun x hx => by rw [List.mem_singleton]; rintro rfl; exact h.ma.hmr hx
  have htb : tb ∉ [mr] := by rw [List.mem_singleton]; intro e; exact h.ma.ht (by simp [e])
  have ma := h.ma
  refine ⟨h.rd.frm f hne (fun x hx => by rw [List.mem_singleton]; rintro rfl; exact ma.hv hx) (by rw [List.mem_singleton]; exact fun e => ma.h0 e.symm), ?_, h.er.frm f (fun x hx => h.low x (by simp at hx; simp [hx])), h.bdr, h.low, h.hE, h.tbf, fun x hx => by have := h.vlt x hx; omega, by have := h.tbl; omega, by have := h.base; omega⟩
  exact { hm := hm, hbr := ma.hbr, nl := ma.nl.frm f (fun x hx => by rw [ma.bl.1] at hx; cases hx; exact htb), nld := ma.nld.frm f (fun x hx => by rw [ma.bl.2.1] at hx; cases hx; exact htb), dd := ma.dd.frm f (fun x hx => by rw [ma.bl.2.2.1] at hx; cases hx; exact htb), dash := ma.dash.frm f (fun x hx => by rw [ma.bl.2.2.2] at hx; cases hx; exact htb), bl := ma.bl, ht := ma.ht, hmr := ma.hmr, hv := ma.hv, h0 := ma.h0 }

theorem next_ok {S : Stk} {mr tb : Nat} {m : MRf} {bd : List UInt8} {B : Nat} {ea ua : Addr} {H : Heap} {X : List Nat} {raw a2 a3 : Value} {pre r : List UInt8} {R : Value → Heap → Prop} (hcl : Closes S mr tb m bd B ea ua (pre ++ ([45, 45] ++ bd ++ [13, 10] ++ r)) X H) (hb : GoodBd bd)
    (hpre : (m.parts = 0 ∧ pre = []) ∨ (0 < m.parts ∧ m.parts < 2 ^ 40 ∧ pre = [13, 10]))
    (hnew : ∀ H1 s1, PR S mr tb { m with parts := m.parts + 1 } bd B ea ua s1 H1 → s1.rest S = r → Frm (mr :: X ++ S.ids) H H1 → CallsH Tryz.prog 96 #[.pointer (some ⟨mr, 0, none⟩), raw, a2, a3] H1 fun x H2 => ∃ p, x = .tuple #[.pointer (some p), .nilIface] ∧ H2[mr]? = some (.cells { m with parts := m.parts + 1 }.cells 127 (0, 0)) ∧
      ∀ H3, H3[mr]? = some (.cells { m with parts := m.parts + 1, cur := .pointer (some p) }.cells 127 (0, 0)) → Frm [mr] H2 H3 → H3.size = H2.size → R (.tuple #[.pointer (some p), .nilIface]) H3) :
    CallsH Tryz.prog 71 #[.pointer (some ⟨mr, 0, none⟩), raw, a2, a3] H R := by
  apply s71
  unfold c71
  refine ⟨fun _ H1 => ∃ s, PR S mr tb m bd B ea ua s H1 ∧ s.rest S = pre ++ ([45, 45] ++ bd ++ [13, 10] ++ r) ∧ Frm (X ++ S.ids) H H1, ?_, ?_⟩
  · rcases hcl with ⟨hc, s, hPR, hr⟩ | ⟨p, hc, hmr, hclose⟩
    · simp only [Fld_ptr, add_mk, Nat.zero_add, List.getElem?_toArray, List.getElem?_cons_succ, List.getElem?_cons_zero, Get_some, Br_true, Br_false, nth_zero, nth_one, nth_two, extractV_tuple, fieldAddrV_ptr, nilV_ptr, load1V_ptr, pickV_bool, unV_not, lenV_slice, capV_slice, cellH_of hPR.ma.hm, MRf.cells, hc, nilV2_neq_ptr, Option.isNone_none, Bool.not_true]
      exact ⟨s, hPR, hr, Frm.refl _ _⟩
    · simp only [Fld_ptr, add_mk, Nat.zero_add, List.getElem?_toArray, List.getElem?_cons_succ, List.getElem?_cons_zero, Get_some, Br_true, Br_false, nth_zero, nth_one, nth_two, extractV_tuple, fieldAddrV_ptr, nilV_ptr, load1V_ptr, pickV_bool, unV_not, lenV_slice, capV_slice, cellH_of hmr, MRf.cells, hc, nilV2_neq_ptr, Option.isNone_some, Bool.not_false]
      exact hclose
  rintro _ H1 ⟨s, h1, hr1, f1⟩
  have hstr : strV .eql (.string ⟨([45, 45] ++ bd).toArray⟩) (.string ⟨#[45, 45]⟩) = some (.bool false) := by
    rw [strV_eql, toList_mk, show (⟨#[45, 45]⟩ : ByteArray).toList = [45, 45] from toList_mk [45, 45], dash_ne hb.ne]
  simp only [Fld_ptr, add_mk, Nat.zero_add, List.getElem?_toArray, List.getElem?_cons_succ, List.getElem?_cons_zero, Get_some, Br_true, Br_false, nth_zero, nth_one, nth_two, extractV_tuple, fieldAddrV_ptr, nilV_ptr, load1V_ptr, pickV_bool, unV_not, lenV_slice, capV_slice, cellH_of h1.ma.hm, MRf.cells, h1.ma.dash.str, hstr]
  refine ⟨fun n vs H2 => ∃ s2 f, vs = [.bool f] ∧ PR S mr tb m bd B ea ua s2 H2 ∧ Frm (X ++ S.ids) H H2 ∧ ((n = 1 ∧ f = false ∧ 0 < m.parts ∧ s2.rest S = [13, 10] ++ ([45, 45] ++ bd ++ [13, 10] ++ r)) ∨ (n = 0 ∧ s2.rest S = [45, 45] ++ bd ++ [13, 10] ++ r)), ?_, ?_⟩
  · rcases hpre with ⟨h0, rfl⟩ | ⟨h0, _, rfl⟩
    · exact ⟨0, s, false, rfl, h1, f1, .inr ⟨rfl, by simpa using hr1⟩⟩
    · exact ⟨1, s, false, rfl, h1, f1, .inl ⟨rfl, rfl, h0, hr1⟩⟩
  clear h1 hr1 f1
  rintro n vs H1 ⟨s1, f, rfl, h1, f1, hcase⟩
  have hE : ∀ {H2 s2}, RdAt S s2 H2 → cellH H2 ⟨0, 0, none⟩ = some (.iface 138 (.pointer (some ea))) := fun {H2 s2} h2 => by rw [← h1.hE.1, ← h1.hE.2]; exact h2.hE.load
  have hbr := h1.ma.hbr
  simp only [Fld_ptr, add_mk, Nat.zero_add, List.getElem?_toArray, List.getElem?_cons_succ, List.getElem?_cons_zero, Get_some, Br_true, Br_false, nth_zero, nth_one, nth_two, extractV_tuple, fieldAddrV_ptr, nilV_ptr, load1V_ptr, pickV_bool, unV_not, lenV_slice, capV_slice, cellH_of h1.ma.hm, MRf.cells, hbr]
  rcases hcase with ⟨rfl, rfl, hpos, hr1⟩ | ⟨rfl, hr1⟩
  · refine (line_ok (p := [13]) (q := [45, 45] ++ bd ++ [13, 10] ++ r) h1.rd (by rw [hr1]; simp) (by decide) (by decide)).mono ?_
    rintro x H2 ⟨u, s2, rfl, h2, hu, hr2, hub, f2, z2⟩
    have m2 := h1.ma.ids f2
    have e2 := hE h2
    simp only [Fld_ptr, add_mk, Nat.zero_add, List.getElem?_toArray, List.getElem?_cons_succ, List.getElem?_cons_zero, Get_some, Br_true, Br_false, nth_zero, nth_one, nth_two, extractV_tuple, fieldAddrV_ptr, nilV_ptr, load1V_ptr, pickV_bool, unV_not, lenV_slice, capV_slice]
    refine Join_direct ?_
    simp only [e2, Get_some, eq_nil, Fld_ptr, add_mk, Nat.zero_add, List.getElem?_toArray, List.getElem?_cons_succ, List.getElem?_cons_zero, Get_some, Br_true, Br_false, nth_zero, nth_one, nth_two, extractV_tuple, fieldAddrV_ptr, nilV_ptr, load1V_ptr, pickV_bool, unV_not, lenV_slice, capV_slice, Bool.false_eq_true, if_false, nilV2_neq_nil]
    refine (isDelim_ok m2.hm hu m2.dash m2.nl (by
      rw [List.drop_eq_nil_of_le (by simp)]; simp)).mono ?_
    rintro x H3 ⟨rfl, rfl⟩
    have d1 : delimLine ([13] ++ [10]) ([45, 45] ++ bd) [13, 10] = false := delim_blank
    rw [d1, Br_false]
    refine (isFinal_ok m2.hm hu m2.dd m2.nl).mono ?_
    rintro x H4 ⟨rfl, rfl⟩
    have d2 : finalLine ([13] ++ [10]) ([45, 45] ++ bd ++ [45, 45]) [13, 10] = false := final_blank
    have d3 : (m.parts == 0) = false := by rw [beq_eq_false_iff_ne]; omega
    rw [d2]
    simp only [Fld_ptr, add_mk, Nat.zero_add, List.getElem?_toArray, List.getElem?_cons_succ, List.getElem?_cons_zero, Get_some, Br_true, Br_false, nth_zero, nth_one, nth_two, extractV_tuple, fieldAddrV_ptr, nilV_ptr, load1V_ptr, pickV_bool, unV_not, lenV_slice, capV_slice, arithV_add, arithV_sub, arithV_eql, arithV_neq, arithV_lss, arithV_leq, arithV_gtr, arithV_geq, intConvV_int, cellH_of m2.hm, MRf.cells, d3]
    refine (equal_ok hu m2.nl).mono ?_
    rintro x H5 ⟨rfl, rfl⟩
    have d4 : (([13] ++ [10] : List UInt8) == [13, 10]) = true := by decide
    simp only [d4, Fld_ptr, add_mk, Nat.zero_add, List.getElem?_toArray, List.getElem?_cons_succ, List.getElem?_cons_zero, Get_some, Br_true, Br_false, nth_zero, nth_one, nth_two, extractV_tuple, fieldAddrV_ptr, nilV_ptr, load1V_ptr, pickV_bool, unV_not, lenV_slice, capV_slice]
    exact ⟨0, by omega, s2, true, rfl, h1.ids h2 f2, f1.trans (f2.mono (fun x hx => by simp [hx])), .inr ⟨rfl, hr2⟩⟩
  · refine (line_ok (p := [45, 45] ++ bd ++ [13]) (q := r) h1.rd (by rw [hr1]; simp) (by have := hb.nl; simp; exact this) (by have := hb.len; simp; omega)).mono ?_
    rintro x H2 ⟨u, s2, rfl, h2, hu, hr2, hub, f2, z2⟩
    have m2 := h1.ma.ids f2
    have e2 := hE h2
    have eu : [45, 45] ++ bd ++ [13] ++ [10] = [45, 45] ++ bd ++ [13, 10] := by simp
    rw [eu] at hu
    simp only [Fld_ptr, add_mk, Nat.zero_add, List.getElem?_toArray, List.getElem?_cons_succ, List.getElem?_cons_zero, Get_some, Br_true, Br_false, nth_zero, nth_one, nth_two, extractV_tuple, fieldAddrV_ptr, nilV_ptr, load1V_ptr, pickV_bool, unV_not, lenV_slice, capV_slice]
    refine Join_direct ?_
    simp only [e2, Get_some, eq_nil, Fld_ptr, add_mk, Nat.zero_add, List.getElem?_toArray, List.getElem?_cons_succ, List.getElem?_cons_zero, Get_some, Br_true, Br_false, nth_zero, nth_one, nth_two, extractV_tuple, fieldAddrV_ptr, nilV_ptr, load1V_ptr, pickV_bool, unV_not, lenV_slice, capV_slice, Bool.false_eq_true, if_false, nilV2_neq_nil]
    refine (isDelim_ok m2.hm hu m2.dash m2.nl (by
      rw [List.drop_left]; decide)).mono ?_
    rintro x H3 ⟨rfl, rfl⟩
    rw [delim_line, Br_true]
    have hparts : 0 ≤ m.parts ∧ m.parts < 2 ^ 40 := by rcases hpre with ⟨h, _⟩ | ⟨h, h', _⟩ <;> omega
    have ew : IntKind.i64.wrap (m.parts + 1) = m.parts + 1 := wrap_i64 (by omega) (by omega)
    simp only [Fld_ptr, add_mk, Nat.zero_add, List.getElem?_toArray, List.getElem?_cons_succ, List.getElem?_cons_zero, Get_some, Br_true, Br_false, nth_zero, nth_one, nth_two, extractV_tuple, fieldAddrV_ptr, nilV_ptr, load1V_ptr, pickV_bool, unV_not, lenV_slice, capV_slice, arithV_add, arithV_sub, arithV_eql, arithV_neq, arithV_lss, arithV_leq, arithV_gtr, arithV_geq, intConvV_int, cellH_of m2.hm, MRf.cells, ew]
    have hm2 := m2.hm
    refine Store_of hm2 (by simp [MRf.cells]) rfl fun H4 hm4 f4 z4 => ?_
    have hm4' : H4[mr]? = some (.cells { m with parts := m.parts + 1 }.cells 127 (0, 0)) := by simpa [MRf.cells] using hm4
    have h4 : PR S mr tb { m with parts := m.parts + 1 } bd B ea ua s2 H4 := (h1.ids h2 f2).parts hm4' f4 z4
    have f14 : Frm (mr :: X ++ S.ids) H H4 := ((f1.mono (fun x hx => by simp at hx; simp; exact .inr hx)).trans (f2.mono (fun x hx => by simp [hx]))).trans (f4.mono (by simp))
    refine (hnew H4 s2 h4 hr2 f14).mono ?_
    rintro x H5 ⟨p, rfl, hm5, hR⟩
    simp only [Fld_ptr, add_mk, Nat.zero_add, List.getElem?_toArray, List.getElem?_cons_succ, List.getElem?_cons_zero, Get_some, Br_true, Br_false, nth_zero, nth_one, nth_two, extractV_tuple, fieldAddrV_ptr, nilV_ptr, load1V_ptr, pickV_bool, unV_not, lenV_slice, capV_slice, nilV2_neq_nil]
    refine Store_of hm5 (by simp [MRf.cells]) rfl fun H6 hm6 f6 z6 => ?_
    exact hR H6 (by simpa [MRf.cells] using hm6) f6 z6

/-- the end of a body, behind parts or not -/
theorem nextPart_end {S : Stk} {mr tb : Nat} {m : MRf} {bd : List UInt8} {B : Nat} {ea ua : Addr} {H : Heap} {X : List Nat} {raw a2 a3 : Value} (hcl : Closes S mr tb m bd B ea ua ([13, 10] ++ ([45, 45] ++ bd ++ [45, 45, 13, 10])) X H) (hb : GoodBd bd) :
    CallsH Tryz.prog 71 #[.pointer (some ⟨mr, 0, none⟩), raw, a2, a3] H fun x H' => x = .tuple #[.pointer none, .iface 138 (.pointer (some ea))] ∧ Frm (X ++ S.ids) H H' ∧ ∃ s, PR S mr tb m bd B ea ua s H' := by
  apply s71
  unfold c71
  refine ⟨fun _ H1 => ∃ s, PR S mr tb m bd B ea ua s H1 ∧ s.rest S = [13, 10] ++ ([45, 45] ++ bd ++ [45, 45, 13, 10]) ∧ Frm (X ++ S.ids) H H1, ?_, ?_⟩
  · rcases hcl with ⟨hc, s, hPR, hr⟩ | ⟨p, hc, hmr, hclose⟩
    · simp only [Fld_ptr, add_mk, Nat.zero_add, List.getElem?_toArray, List.getElem?_cons_succ, List.getElem?_cons_zero, Get_some, Br_true, Br_false, nth_zero, nth_one, nth_two, extractV_tuple, fieldAddrV_ptr, nilV_ptr, load1V_ptr, pickV_bool, unV_not, lenV_slice, capV_slice, cellH_of hPR.ma.hm, MRf.cells, hc, nilV2_neq_ptr, Option.isNone_none, Bool.not_true]
      exact ⟨s, hPR, hr, Frm.refl _ _⟩
    · simp only [Fld_ptr, add_mk, Nat.zero_add, List.getElem?_toArray, List.getElem?_cons_succ, List.getElem?_cons_zero, Get_some, Br_true, Br_false, nth_zero, nth_one, nth_two, extractV_tuple, fieldAddrV_ptr, nilV_ptr, load1V_ptr, pickV_bool, unV_not, lenV_slice, capV_slice, cellH_of hmr, MRf.cells, hc, nilV2_neq_ptr, Option.isNone_some, Bool.not_false]
      exact hclose
  rintro _ H1 ⟨s, h1, hr1, f1⟩
  have hstr : strV .eql (.string ⟨([45, 45] ++ bd).toArray⟩) (.string ⟨#[45, 45]⟩) = some (.bool false) := by
    rw [strV_eql, toList_mk, show (⟨#[45, 45]⟩ : ByteArray).toList = [45, 45] from toList_mk [45, 45], dash_ne hb.ne]
  simp only [Fld_ptr, add_mk, Nat.zero_add, List.getElem?_toArray, List.getElem?_cons_succ, List.getElem?_cons_zero, Get_some, Br_true, Br_false, nth_zero, nth_one, nth_two, extractV_tuple, fieldAddrV_ptr, nilV_ptr, load1V_ptr, pickV_bool, unV_not, lenV_slice, capV_slice, cellH_of h1.ma.hm, MRf.cells, h1.ma.dash.str, hstr]
  refine ⟨fun n vs H2 => ∃ s2 f, vs = [.bool f] ∧ PR S mr tb m bd B ea ua s2 H2 ∧ Frm (X ++ S.ids) H H2 ∧ ((n = 1 ∧ f = false ∧ s2.rest S = [13, 10] ++ ([45, 45] ++ bd ++ [45, 45, 13, 10])) ∨ (n = 0 ∧ s2.rest S = [45, 45] ++ bd ++ [45, 45, 13, 10])), ⟨1, s, false, rfl, h1, f1, .inl ⟨rfl, rfl, hr1⟩⟩, ?_⟩
  clear h1 hr1 f1
  rintro n vs H1 ⟨s1, f, rfl, h1, f1, hcase⟩
  have hE : ∀ {H2 s2}, RdAt S s2 H2 → cellH H2 ⟨0, 0, none⟩ = some (.iface 138 (.pointer (some ea))) := fun {H2 s2} h2 => by rw [← h1.hE.1, ← h1.hE.2]; exact h2.hE.load
  have hbr := h1.ma.hbr
  simp only [Fld_ptr, add_mk, Nat.zero_add, List.getElem?_toArray, List.getElem?_cons_succ, List.getElem?_cons_zero, Get_some, Br_true, Br_false, nth_zero, nth_one, nth_two, extractV_tuple, fieldAddrV_ptr, nilV_ptr, load1V_ptr, pickV_bool, unV_not, lenV_slice, capV_slice, cellH_of h1.ma.hm, MRf.cells, hbr]
  rcases hcase with ⟨rfl, rfl, hr1⟩ | ⟨rfl, hr1⟩
  · refine (line_ok (p := [13]) (q := [45, 45] ++ bd ++ [45, 45, 13, 10]) h1.rd (by rw [hr1]; simp) (by decide) (by decide)).mono ?_
    rintro x H2 ⟨u, s2, rfl, h2, hu, hr2, hub, f2, z2⟩
    have m2 := h1.ma.ids f2
    have e2 := hE h2
    simp only [Fld_ptr, add_mk, Nat.zero_add, List.getElem?_toArray, List.getElem?_cons_succ, List.getElem?_cons_zero, Get_some, Br_true, Br_false, nth_zero, nth_one, nth_two, extractV_tuple, fieldAddrV_ptr, nilV_ptr, load1V_ptr, pickV_bool, unV_not, lenV_slice, capV_slice]
    refine Join_direct ?_
    simp only [e2, Get_some, eq_nil, Fld_ptr, add_mk, Nat.zero_add, List.getElem?_toArray, List.getElem?_cons_succ, List.getElem?_cons_zero, Get_some, Br_true, Br_false, nth_zero, nth_one, nth_two, extractV_tuple, fieldAddrV_ptr, nilV_ptr, load1V_ptr, pickV_bool, unV_not, lenV_slice, capV_slice, Bool.false_eq_true, if_false, nilV2_neq_nil]
    refine (isDelim_ok m2.hm hu m2.dash m2.nl (by
      rw [List.drop_eq_nil_of_le (by simp)]; simp)).mono ?_
    rintro x H3 ⟨rfl, rfl⟩
    have d1 : delimLine ([13] ++ [10]) ([45, 45] ++ bd) [13, 10] = false := delim_blank
    rw [d1, Br_false]
    refine (isFinal_ok m2.hm hu m2.dd m2.nl).mono ?_
    rintro x H4 ⟨rfl, rfl⟩
    have d2 : finalLine ([13] ++ [10]) ([45, 45] ++ bd ++ [45, 45]) [13, 10] = false := final_blank
    rw [d2]
    simp only [Fld_ptr, add_mk, Nat.zero_add, List.getElem?_toArray, List.getElem?_cons_succ, List.getElem?_cons_zero, Get_some, Br_true, Br_false, nth_zero, nth_one, nth_two, extractV_tuple, fieldAddrV_ptr, nilV_ptr, load1V_ptr, pickV_bool, unV_not, lenV_slice, capV_slice, arithV_add, arithV_sub, arithV_eql, arithV_neq, arithV_lss, arithV_leq, arithV_gtr, arithV_geq, intConvV_int, cellH_of m2.hm, MRf.cells]
    have hf12 : Frm (X ++ S.ids) H H4 := f1.trans (f2.mono (fun x hx => by simp [hx]))
    refine Br_intro (fun _ => ⟨0, by omega, s2, false, rfl, h1.ids h2 f2, hf12, .inr ⟨rfl, hr2⟩⟩) (fun _ => ?_)
    refine (equal_ok hu m2.nl).mono ?_
    rintro x H5 ⟨rfl, rfl⟩
    have d4 : (([13] ++ [10] : List UInt8) == [13, 10]) = true := by decide
    simp only [d4, Fld_ptr, add_mk, Nat.zero_add, List.getElem?_toArray, List.getElem?_cons_succ, List.getElem?_cons_zero, Get_some, Br_true, Br_false, nth_zero, nth_one, nth_two, extractV_tuple, fieldAddrV_ptr, nilV_ptr, load1V_ptr, pickV_bool, unV_not, lenV_slice, capV_slice]
    exact ⟨0, by omega, s2, true, rfl, h1.ids h2 f2, hf12, .inr ⟨rfl, hr2⟩⟩
  · refine (line_ok (p := [45, 45] ++ bd ++ [45, 45, 13]) (q := []) h1.rd (by rw [hr1]; simp) (by have := hb.nl; simp; exact this) (by have := hb.len; simp; omega)).mono ?_
    rintro x H2 ⟨u, s2, rfl, h2, hu, hr2, hub, f2, z2⟩
    have m2 := h1.ma.ids f2
    have e2 := hE h2
    have eu : [45, 45] ++ bd ++ [45, 45, 13] ++ [10] = [45, 45] ++ bd ++ [45, 45, 13, 10] := by simp
    rw [eu] at hu
    simp only [Fld_ptr, add_mk, Nat.zero_add, List.getElem?_toArray, List.getElem?_cons_succ, List.getElem?_cons_zero, Get_some, Br_true, Br_false, nth_zero, nth_one, nth_two, extractV_tuple, fieldAddrV_ptr, nilV_ptr, load1V_ptr, pickV_bool, unV_not, lenV_slice, capV_slice]
    refine Join_direct ?_
    simp only [e2, Get_some, eq_nil, Fld_ptr, add_mk, Nat.zero_add, List.getElem?_toArray, List.getElem?_cons_succ, List.getElem?_cons_zero, Get_some, Br_true, Br_false, nth_zero, nth_one, nth_two, extractV_tuple, fieldAddrV_ptr, nilV_ptr, load1V_ptr, pickV_bool, unV_not, lenV_slice, capV_slice, Bool.false_eq_true, if_false, nilV2_neq_nil]
    refine (isDelim_ok m2.hm hu m2.dash m2.nl (by
      rw [List.drop_left]; decide)).mono ?_
    rintro x H3 ⟨rfl, rfl⟩
    rw [delim_end, Br_false]
    refine (isFinal_ok m2.hm hu m2.dd m2.nl).mono ?_
    rintro x H4 ⟨rfl, rfl⟩
    rw [final_end]
    simp only [Fld_ptr, add_mk, Nat.zero_add, List.getElem?_toArray, List.getElem?_cons_succ, List.getElem?_cons_zero, Get_some, Br_true, Br_false, nth_zero, nth_one, nth_two, extractV_tuple, fieldAddrV_ptr, nilV_ptr, load1V_ptr, pickV_bool, unV_not, lenV_slice, capV_slice, e2]
    exact ⟨trivial, f1.trans (f2.mono (fun x hx => by simp [hx])), s2, h1.ids h2 f2⟩
end Go.Cps

/-
  impl.headers: the entries of a header's map, each with a copy of its values, sorted by their keys.
  Conditions: each key has a value; what the sort does is given.
-/
namespace Go.Cps
open Go Go.Proofs

theorem fill2 {z1 z2 a b : Value} : Instr.fill (fun j => some (j * 2, 2)) ((Array.range (1 * 2)).map ((#[z1, z2] : Array Value)[· % 2]!)) [(0, .agg #[a, b])] = some #[a, b] := by
  have e0 : (Array.range (1 * 2)) = #[0, 1] := by decide
  rw [e0]
  simp [Instr.fill, Value.cells]
theorem fill0 {z : Value} : Instr.fill (fun j => some (j * 1, 1)) ((Array.range (0 * 1)).map ((#[z] : Array Value)[· % 1]!)) [] = some #[] := by
  have e0 : (Array.range (0 * 1)) = #[] := by decide
  rw [e0]
  simp [Instr.fill]

theorem headersLoop_ok {H : Heap} {m N : Nat} {E : List Ent} {D : List Nat} {K : Value → Heap → Prop} (hE : Ents H m N E) (h0 : ∀ e ∈ E, e.vs ≠ [] ∧ e.vs.length < 2 ^ 30) (hEl : E.length < 2 ^ 30) (hD : ∀ x ∈ D, x < H.size)
    (hK : ∀ k out hs H', OwnS 2 90 HeadR D H' k out hs → hs.Perm (E.map Ent.hd) → Frm [] H H' → (∀ g, k = some g → H.size ≤ g) → K out H') :
    ∃ x10 H0, (∀ K' : Value → Heap → Prop, ExecV Tryz.prog (Instr.range 106 (.map (some m))) H K' = K' x10 H0) ∧
    Loop [(.slice none 0 0)] H0 fun K1 vs2 H =>
    ExecV Tryz.prog (Instr.next x10 false 0) H fun x11 H =>
    Get (extractV x11 0) fun x12 =>
    Br x12 (
    ExecV Tryz.prog (Instr.entry x10) H fun x13 H =>
    Get (extractV x13 0) fun x14 =>
    Get (extractV x13 1) fun x15 =>
    Get (Instr.fill (fun j => some (j * 1, 1)) ((Array.range (0 * 1)).map ((#[(.string ⟨#[]⟩)] : Array Value)[· % 1]!)) []) fun cs => NewSl cs 9 0 H fun x18 H =>
    Append 9 1 16 #[(.string ⟨#[]⟩)] x18 x15 H fun x20 H =>
    Get ((fillV #[(0, 1), (1, 1)] #[(.string ⟨#[]⟩), (.slice none 0 0)] [(0, x14), (1, x20)]).map .agg) fun x21 =>
    Get (Instr.fill (fun j => some (j * 2, 2)) ((Array.range (1 * 2)).map ((#[(.string ⟨#[]⟩), (.slice none 0 0)] : Array Value)[· % 2]!)) [(0, x21)]) fun cs => NewSl cs 90 1 H fun x22 H =>
    Append 90 2 40 #[(.string ⟨#[]⟩), (.slice none 0 0)] (nth vs2 0) x22 H fun x23 H =>
    K1 [x23] H) (K (nth vs2 0) H) := by
  obtain ⟨es, hm, hborn, hmap, hent⟩ := ents_iter hE
  refine ⟨_, _, fun K' => range_map und106 hm, ?_⟩
  have f0 : Frm [] H (H.push (.mapIter (some m) es.size #[] es.size)) := Frm.push _ _ _
  have hit0 : IterAt (H.push (.mapIter (some m) es.size #[] es.size)) m H.size es #[] := ⟨push_old hm, push_same _ _, hborn⟩
  have hml := lt_of_some hm
  generalize H.push (.mapIter (some m) es.size #[] es.size) = H0 at *
  have hnd := hit0.nodup
  refine ⟨fun μ vs H1 => ∃ k out done seen, vs = [out] ∧ μ = (leftOf es seen).size ∧ IterAt H1 m H.size es seen ∧ OwnS 2 90 HeadR (H.size :: D) H1 k out done ∧ (done ++ (leftOf es seen).toList.map (entHd E)).Perm (E.map Ent.hd) ∧ Frm [] H H1 ∧ (∀ g, k = some g → H.size < g),
    ⟨_, none, _, [], #[], rfl, rfl, hit0, ⟨rfl, rfl⟩, ?_, f0, by simp⟩, ?_⟩
  · rw [left_start, hmap]; exact List.Perm.refl _
  clear hit0 f0
  rintro μ vs H1 ⟨k, out, done, seen, rfl, rfl, hit, hout, hperm, f1, hk⟩
  simp only [Fld_ptr, add_mk, Nat.zero_add, List.getElem?_toArray, List.getElem?_cons_succ, List.getElem?_cons_zero, Get_some, Br_true, Br_false, nth_zero, nth_one, nth_two, extractV_tuple, fieldAddrV_ptr, nilV_ptr, load1V_ptr, pickV_bool, unV_not, lenV_slice, capV_slice]
  refine next_map hit (fun hz => ?_) (fun e he => ?_)
  · simp only [Fld_ptr, add_mk, Nat.zero_add, List.getElem?_toArray, List.getElem?_cons_succ, List.getElem?_cons_zero, Get_some, Br_true, Br_false, nth_zero, nth_one, nth_two, extractV_tuple, fieldAddrV_ptr, nilV_ptr, load1V_ptr, pickV_bool, unV_not, lenV_slice, capV_slice]
    refine hK k out done H1 (hout.sub headR_ok (fun x hx => by simp [hx])) ?_ f1 (fun g hg => Nat.le_of_lt (hk g hg))
    have : (leftOf es seen).toList = [] := List.eq_nil_of_length_eq_zero (by simpa using hz)
    rw [this] at hperm
    simpa using hperm
  · have hrl := lt_of_some hit.hr
    have hbase := f1.size
    have f2 : Frm [H.size] H1 (upd H1 H.size (.mapIter (some m) es.size (seen.push e.born) es.size)) := Frm.upd _ (by simp)
    have hit2 := hit.step e.born
    have z2 : (upd H1 H.size (.mapIter (some m) es.size (seen.push e.born) es.size)).size = H1.size := by simp
    generalize upd H1 H.size (.mapIter (some m) es.size (seen.push e.born) es.size) = H2 at *
    have hee := left_mem he
    simp only [Fld_ptr, add_mk, Nat.zero_add, List.getElem?_toArray, List.getElem?_cons_succ, List.getElem?_cons_zero, Get_some, Br_true, Br_false, nth_zero, nth_one, nth_two, extractV_tuple, fieldAddrV_ptr, nilV_ptr, load1V_ptr, pickV_bool, unV_not, lenV_slice, capV_slice]
    rw [entry_map hit2 hee]
    obtain ⟨t, ht, hthd, htk, htv⟩ := hent e hee
    have fH2 : Frm [] H H2 := f1.up f2 (fun x hx => by rw [List.mem_singleton] at hx; subst hx; exact .inr (Nat.le_refl _))
    have hst : StrsAt H2 t.b t.o t.c t.vs := (hE.strs t ht).frm fH2 (by simp)
    obtain ⟨ht0, htl⟩ := h0 t ht
    have hout2 : OwnS 2 90 HeadR (H.size :: D) H2 k out done := hout.frm headR_ok f2 (fun x hx => by
      rw [List.mem_singleton] at hx; subst hx
      exact ⟨.inl (by simp), fun e => by have := hk _ e; omega⟩)
    simp only [Fld_ptr, add_mk, Nat.zero_add, List.getElem?_toArray, List.getElem?_cons_succ, List.getElem?_cons_zero, Get_some, Br_true, Br_false, nth_zero, nth_one, nth_two, extractV_tuple, fieldAddrV_ptr, nilV_ptr, load1V_ptr, pickV_bool, unV_not, lenV_slice, capV_slice, fill0, NewSl, htk, htv, Ent.pair]
    have f3 : Frm [] H2 (H2.push (.cells #[] 9 (0, 0))) := Frm.push _ _ _
    have z3 : (H2.push (.cells #[] 9 (0, 0))).size = H2.size + 1 := by simp
    generalize H2.push (.cells #[] 9 (0, 0)) = H3 at *
    have hst3 : StrsV [] H3 (.slice (some ⟨t.b, t.o, none⟩) t.vs.length t.c) t.vs := (hst.frm f3 (by simp)).strsV (by simp)
    have hkl : ∀ y ∈ k.toList ++ H.size :: D, y < H2.size := fun y hy => by
      rcases List.mem_append.1 hy with hy | hy
      · have := (hout2.lt y (by simpa using hy)).1
        exact this
      · rcases List.mem_cons.1 hy with rfl | hy
        · omega
        · have := hD y hy; omega
    refine append_copy (D' := k.toList ++ H.size :: D) hst3 ht0 (by omega) (fun y hy => by have := hkl y hy; omega) fun g v H4 hv4 f4 hg z4 => ?_
    have e1 : fillV #[(0, 1), (1, 1)] #[(.string ⟨#[]⟩), (.slice none 0 0)] [(0, strVal t.key), (1, v)] = some #[strVal t.key, v] := by
      rw [fillV_cons rfl rfl (by simp), fillV_cons hv4.isOne rfl (by simp), fillV_nil]; rfl
    simp only [e1, Option.map_some, Get_some, fill2, NewSl]
    have f5 : Frm [] H4 (H4.push (.cells #[strVal t.key, v] 90 (0, 0))) := Frm.push _ _ _
    have hb5 := push_same H4 (.cells #[strVal t.key, v] 90 (0, 0))
    have z5 : (H4.push (.cells #[strVal t.key, v] 90 (0, 0))).size = H4.size + 1 := by simp
    generalize H4.push (.cells #[strVal t.key, v] 90 (0, 0)) = H5 at *
    have f25 : Frm [] H2 H5 := (f3.trans f4).trans f5
    have hout5 := hout2.frm headR_ok f25 (by simp)
    have hlenp := hperm.length_eq
    simp only [List.length_append, List.length_map, Array.length_toList] at hlenp
    refine append_one headR_ok (xs := [strVal t.key, v]) (a := t.hd) hout5 (fun i hi => ?_) rfl ⟨v, rfl, (hv4.slV strR_ok).frm strR_ok f5 (by simp)⟩ rfl (by omega) (by omega) (fun x hx => ?_) (by omega) fun k' v' H6 hout6 f6 hk6 => ?_
    · rw [cellH_of hb5]; simp
    · have := hkl x (by simp only [List.mem_append, List.mem_cons]; exact .inr (List.mem_cons.1 hx)); omega
    · have hit6 := (hit2.frm f25 (by simp) (by simp)).frm f6 (fun hm => by have := hk m (by simpa using hm); omega) (fun hm => by have := hk _ (by simpa using hm); omega)
      have hlp : (leftOf es (seen.push e.born)).toList = (leftOf es seen).toList.filter fun x => x.born != e.born := left_push es seen e.born
      have hpo := perm_out (left_nodup seen hnd) he
      have hlen : (leftOf es (seen.push e.born)).size < (leftOf es seen).size := by
        have h1 := hpo.length_eq
        rw [← hlp] at h1
        simp only [List.length_cons, Array.length_toList] at h1
        omega
      refine ⟨_, hlen, k', v', done ++ [t.hd], seen.push e.born, rfl, rfl, hit6, hout6, ?_, ?_, ?_⟩
      · refine List.Perm.trans ?_ hperm
        rw [hlp, List.append_assoc]
        refine List.Perm.append_left _ ?_
        have := hpo.map (entHd E)
        rw [List.map_cons, hthd] at this
        exact this.symm
      · exact (fH2.trans f25).up f6 (fun x hx => .inr (Nat.le_of_lt (hk x (by simpa using hx))))
      · intro g hg
        rcases hk6 with h | ⟨g', h, hge⟩
        · exact hk g (by rw [← h, hg])
        · rw [hg] at h; cases h; omega
end Go.Cps
