/-
  A part of the proof: nextPart over a body without parts; how a body's end is told; Parts of it. What the bodies of some functions of the program come to, at heap level, each proved of the program itself. bufio.Reader: Peek, and Read out of the buffer.
  Conditions: each contract's own.
-/
import Derived.Test.YteajpfckbnfdaaaGreatDoorH4
import Derived.Test.YteajpfckbnfdaaaGreatDoorH8
set_option linter.all false
namespace Go.Cps
open Go Go.Proofs
theorem nl?_line {p q : List UInt8} (hp : 10 ∉ p) : nl? (p ++ 10 :: q) = some p.length := by
  have h : nl? p = none := by
    unfold nl?
    rw [List.findIdx?_eq_none_iff]
    intro x hx
    rw [beq_eq_false_iff_ne]
    rintro rfl
    exact hp hx
  rw [nl?_append_none h]
  have : nl? (10 :: q) = some 0 := by unfold nl?; rw [List.findIdx?_cons]; rfl
  rw [this]; simp
theorem line_ok {S : Stk} {s : St} {H : Heap} {p q : List UInt8} (h : RdAt S s H) (hr : s.rest S = p ++ 10 :: q) (hp : 10 ∉ p) (hl : p.length < 4096) :
    CallsH Tryz.prog 45 #[.pointer (some ⟨S.b, 0, none⟩), .int .u8 10] H fun x H' => ∃ u s', x = .tuple #[u, .nilIface] ∧ RdAt S s' H' ∧ IsBytes H' u (p ++ [10]) ∧ s'.rest S = q ∧ Rng u S.bf s'.r ∧ Frm S.ids H H' ∧ H'.size = H.size := by
  have hn := nl?_line (q := q) hp
  rw [← hr] at hn
  refine (readSlice_ok h (fun e => by rw [hn] at e; cases e) (fun j e => by rw [hn] at e; cases e; exact hl)).mono ?_
  rintro x H' ⟨u, s', rfl, hL⟩
  have hll : lineLen (s.rest S) = p.length + 1 := by rw [lineLen, hn]
  have h1 := hL.line
  have h2 := hL.rest
  rw [hll, hr] at h1 h2
  have e1 : (p ++ 10 :: q).take (p.length + 1) = p ++ [10] := by
    rw [show p ++ 10 :: q = (p ++ [10]) ++ q by simp, List.take_left' (by simp)]
  have e2 : (p ++ 10 :: q).drop (p.length + 1) = q := by
    rw [show p ++ 10 :: q = (p ++ [10]) ++ q by simp, List.drop_left' (by simp)]
  rw [e1] at h1
  rw [e2] at h2
  exact ⟨u, s', by rw [hn]; rfl, hL.rd, h1, h2, hL.rng, hL.frm, hL.size⟩
theorem dash_ne {bd : List UInt8} (h : bd ≠ []) : (([45, 45] ++ bd) == [45, 45]) = false := by
  rw [beq_eq_false_iff_ne]
  intro e
  apply h
  have := congrArg List.length e
  simp at this
  exact this
structure GoodBd (bd : List UInt8) : Prop where
  ne : bd ≠ []
  nl : 10 ∉ bd
  len : bd.length < 100
theorem delim_blank {bd : List UInt8} : delimLine [13, 10] ([45, 45] ++ bd) [13, 10] = false := by
  simp [delimLine, List.isPrefixOf]
theorem final_blank {bd : List UInt8} : finalLine [13, 10] ([45, 45] ++ bd ++ [45, 45]) [13, 10] = false := by
  simp [finalLine, List.isPrefixOf]
theorem prefix_self (a b : List UInt8) : a.isPrefixOf (a ++ b) = true := by
  rw [List.isPrefixOf_iff_prefix]; exact List.prefix_append a b
theorem delim_end {bd : List UInt8} : delimLine ([45, 45] ++ bd ++ [45, 45, 13, 10]) ([45, 45] ++ bd) [13, 10] = false := by
  simp only [delimLine, prefix_self, List.drop_left, Bool.true_and]
  decide
theorem final_end {bd : List UInt8} : finalLine ([45, 45] ++ bd ++ [45, 45, 13, 10]) ([45, 45] ++ bd ++ [45, 45]) [13, 10] = true := by
  have e : [45, 45] ++ bd ++ [45, 45, 13, 10] = ([45, 45] ++ bd ++ [45, 45]) ++ [13, 10] := by simp
  rw [e]
  simp only [finalLine, prefix_self, List.drop_left, Bool.true_and]
  decide
theorem state_end {e : Addr} {H : Heap} (hE : EOFat H (.iface 109 (.pointer (some e)))) : CallsH Tryz.prog 17 #[.iface 109 (.pointer (some e))] H fun x H' => x = .int .i64 1 ∧ H' = H := by
  apply s66
  simp only [c66, Qf, hE.load, Q6, eq_same, Q7, and_self]
end Go.Cps
namespace Go.Cps
open Go Go.Proofs
set_option maxRecDepth 100000
def c166 (a0 a1 : Value) (H : Heap) (R : Value → Heap → Prop) : Prop :=
  Get (arithV .lss .i64 a1 (.int .i64 0)) fun x9 =>
  Br x9 (
  Get (load1V (.pointer (some ⟨24, 0, none⟩)) H) fun x10 =>
  R (.tuple #[(.slice none 0 0), x10]) H) (
  Get (nilV a0) fun x12 =>
  Get (fieldAddrV 5 x12) fun x13 =>
  Get (store1V x13 (.int .i64 (-1)) H) fun H =>
  Get (nilV a0) fun x15 =>
  Get (fieldAddrV 6 x15) fun x16 =>
  Get (store1V x16 (.int .i64 (-1)) H) fun H =>
  Loop [] H fun K1 _ H =>
  Join (fun K3 =>
  Fld 3 a0 H fun x20 =>
  Fld 2 a0 H fun x24 =>
  Get (arithV .sub .i64 x20 x24) fun x25 =>
  Get (arithV .lss .i64 x25 a1) fun x27 =>
  Br x27 (
  Fld 3 a0 H fun x32 =>
  Fld 2 a0 H fun x36 =>
  Get (arithV .sub .i64 x32 x36) fun x37 =>
  Fld 0 a0 H fun x41 =>
  Get (lenV x41) fun x42 =>
  Get (arithV .lss .i64 x37 x42) fun x43 =>
  Get (pickV (.bool true) x43 (.bool false)) fun x44 =>
  Br x44 (
  Fld 4 a0 H fun x49 =>
  Get (nilV2 .eql .nilIface x49) fun x50 =>
  Get (pickV (.bool true) x50 (.bool false)) fun x51 =>
  K3 [x51] H) (
  Get (pickV (.bool false) undef (.bool false)) fun x51_1 =>
  K3 [x51_1] H)) (
  Get (pickV (.bool false) undef (.bool false)) fun x44_1 =>
  Br x44_1 (
  Fld 4 a0 H fun x49_1 =>
  Get (nilV2 .eql .nilIface x49_1) fun x50_1 =>
  Get (pickV (.bool true) x50_1 (.bool false)) fun x51_2 =>
  K3 [x51_2] H) (
  Get (pickV (.bool false) undef (.bool false)) fun x51_3 =>
  K3 [x51_3] H))) fun vs4 H =>
  Br (nth vs4 0) (
  CallsH Tryz.prog 62 #[a0] H fun _ H =>
  K1 [] H) (
  Fld 0 a0 H fun x58 =>
  Get (lenV x58) fun x59 =>
  Get (arithV .gtr .i64 a1 x59) fun x60 =>
  Br x60 (
  Fld 0 a0 H fun x64 =>
  Fld 2 a0 H fun x68 =>
  Fld 3 a0 H fun x72 =>
  Get (sliceV 1 x64 (some x68) (some x72) none) fun x73 =>
  Get (load1V (.pointer (some ⟨1, 0, none⟩)) H) fun x74 =>
  R (.tuple #[x73, x74]) H) (
  Join (fun K5 =>
  Fld 3 a0 H fun x78 =>
  Fld 2 a0 H fun x82 =>
  Get (arithV .sub .i64 x78 x82) fun x83 =>
  Get (arithV .lss .i64 x83 a1) fun x86 =>
  Br x86 (
  CallsH Tryz.prog 60 #[a0] H fun x89 H =>
  Get (nilV2 .eql .nilIface x89) fun x91 =>
  Br x91 (
  Get (load1V (.pointer (some ⟨1, 0, none⟩)) H) fun x92 =>
  K5 [x83, x92] H) (
  K5 [x83, x89] H)) (
  K5 [a1, .nilIface] H)) fun vs6 H =>
  Fld 0 a0 H fun x96 =>
  Fld 2 a0 H fun x100 =>
  Fld 2 a0 H fun x104 =>
  Get (arithV .add .i64 x104 (nth vs6 0)) fun x106 =>
  Get (sliceV 1 x96 (some x100) (some x106) none) fun x107 =>
  R (.tuple #[x107, (nth vs6 1)]) H)))
def p166 : Plan := .seq (.leaf []) (.seq (.seq (.leaf []) (.cond (.seq (.leaf [0, 1, 2]) (.leaf [])) (.leaf []))) (.seq (.leaf []) (.seq (.leaf []) (.seq (.block (.loop [] (.seq (.join [51] (.leaf [0, 1, 2, 3, 4, 5, 6, 7, 8, 9, 10, 11, 12, 13, 14, 15, 16, 17, 18, 19, 20, 21, 22, 23, 24, 25, 26, 27, 28, 29, 30, 31, 32, 33, 34]) (.cond (.leaf []) (.leaf []))) (.block (.leaf []))))) (.seq (.seq (.leaf []) (.cond (.seq (.leaf [0, 1, 2, 3, 4, 5, 6, 7, 8, 9, 10, 11, 12, 13, 14, 15]) (.leaf [])) (.leaf []))) (.seq (.leaf []) (.join [1, 6] (.seq (.leaf [0, 1, 2, 3, 4, 5, 6, 7, 8, 9]) (.seq (.leaf []) (.cond (.seq (.leaf []) (.seq (.leaf []) (.seq (.leaf []) (.cond (.leaf []) (.leaf []))))) (.leaf [])))) (.seq (.leaf [0, 1, 2, 3, 4, 5, 6, 7, 8, 9, 10, 11, 12, 13, 14, 15, 16, 17]) (.leaf [])))))))))
theorem s166 {a0 a1 : Value} {H : Heap} {R : Value → Heap → Prop} (h : c166 a0 a1 H R) : CallsH Tryz.prog 169 #[a0, a1] H R :=
  callsH_of_eq p166 (fn := Tryz.f169) (c := Tryz.f169.body.getD .skip) (args := [a0, a1]) Tryz.func169 (by kernel_rfl) mixed (by kernel_rfl) (by kernel_rfl) (by kernel_rfl) h
def c215 (a0 a1 : Value) (H : Heap) (R : Value → Heap → Prop) : Prop :=
  Get (lenV a1) fun x7 =>
  Get (arithV .eql .i64 x7 (.int .i64 0)) fun x9 =>
  Br x9 (
  CallsH Tryz.prog 61 #[a0] H fun x11 H =>
  Get (arithV .gtr .i64 x11 (.int .i64 0)) fun x12 =>
  Br x12 (
  R (.tuple #[(.int .i64 0), .nilIface]) H) (
  CallsH Tryz.prog 60 #[a0] H fun x14 H =>
  R (.tuple #[(.int .i64 0), x14]) H)) (
  Join (fun K1 =>
  Fld 2 a0 H fun x18 =>
  Fld 3 a0 H fun x22 =>
  Get (arithV .eql .i64 x18 x22) fun x23 =>
  Br x23 (
  Fld 4 a0 H fun x27 =>
  Get (nilV2 .neq .nilIface x27) fun x28 =>
  Br x28 (
  CallsH Tryz.prog 60 #[a0] H fun x30 H =>
  R (.tuple #[(.int .i64 0), x30]) H) (
  Get (lenV a1) fun x32 =>
  Fld 0 a0 H fun x36 =>
  Get (lenV x36) fun x37 =>
  Get (arithV .geq .i64 x32 x37) fun x38 =>
  Br x38 (
  Fld 1 a0 H fun x44 =>
  Invoke Tryz.prog "Read" x44 #[a1] H fun x46 H =>
  Get (extractV x46 0) fun x47 =>
  Get (extractV x46 1) fun x48 =>
  Get (nilV a0) fun x49 =>
  Get (fieldAddrV 4 x49) fun x50 =>
  Get (store1V x50 x48 H) fun H =>
  Join (fun K2 =>
  Get (arithV .lss .i64 x47 (.int .i64 0)) fun x52 =>
  Br x52 (
  Get (load1V (.pointer (some ⟨4, 0, none⟩)) H) fun _ =>
  False) (
  K2 [] H)) fun _ H =>
  Join (fun K4 =>
  Get (arithV .gtr .i64 x47 (.int .i64 0)) fun x55 =>
  Br x55 (
  Get (arithV .sub .i64 x47 (.int .i64 1)) fun x59 =>
  Get (elemAddrV 1 a1 x59) fun x60 =>
  Get (load1V x60 H) fun x61 =>
  Get (intConvV .i64 x61) fun x62 =>
  Get (nilV a0) fun x63 =>
  Get (fieldAddrV 5 x63) fun x64 =>
  Get (store1V x64 x62 H) fun H =>
  Get (nilV a0) fun x66 =>
  Get (fieldAddrV 6 x66) fun x67 =>
  Get (store1V x67 (.int .i64 (-1)) H) fun H =>
  K4 [] H) (
  K4 [] H)) fun _ H =>
  CallsH Tryz.prog 60 #[a0] H fun x70 H =>
  R (.tuple #[x47, x70]) H) (
  Get (nilV a0) fun x72 =>
  Get (fieldAddrV 2 x72) fun x73 =>
  Get (store1V x73 (.int .i64 0) H) fun H =>
  Get (nilV a0) fun x75 =>
  Get (fieldAddrV 3 x75) fun x76 =>
  Get (store1V x76 (.int .i64 0) H) fun H =>
  Fld 1 a0 H fun x82 =>
  Fld 0 a0 H fun x86 =>
  Get (nilV x82) fun _ =>
  Invoke Tryz.prog "Read" x82 #[x86] H fun x89 H =>
  Get (extractV x89 0) fun x90 =>
  Get (extractV x89 1) fun x91 =>
  Get (nilV a0) fun x92 =>
  Get (fieldAddrV 4 x92) fun x93 =>
  Get (store1V x93 x91 H) fun H =>
  Join (fun K6 =>
  Get (arithV .lss .i64 x90 (.int .i64 0)) fun x95 =>
  Br x95 (
  Get (load1V (.pointer (some ⟨4, 0, none⟩)) H) fun _ =>
  False) (
  K6 [] H)) fun _ H =>
  Get (arithV .eql .i64 x90 (.int .i64 0)) fun x98 =>
  Br x98 (
  CallsH Tryz.prog 60 #[a0] H fun x100 H =>
  R (.tuple #[(.int .i64 0), x100]) H) (
  Fld 3 a0 H fun x104 =>
  Get (arithV .add .i64 x104 x90) fun x106 =>
  Get (nilV a0) fun x107 =>
  Get (fieldAddrV 3 x107) fun x108 =>
  Get (store1V x108 x106 H) fun H =>
  K1 [] H)))) (
  K1 [] H)) fun _ H =>
  Fld 0 a0 H fun x113 =>
  Fld 2 a0 H fun x117 =>
  Fld 3 a0 H fun x121 =>
  Get (sliceV 1 x113 (some x117) (some x121) none) fun x122 =>
  Copy 1 a1 x122 H fun x123 H =>
  Fld 2 a0 H fun x127 =>
  Get (arithV .add .i64 x127 x123) fun x129 =>
  Get (nilV a0) fun x130 =>
  Get (fieldAddrV 2 x130) fun x131 =>
  Get (store1V x131 x129 H) fun H =>
  Fld 0 a0 H fun x136 =>
  Fld 2 a0 H fun x140 =>
  Get (arithV .sub .i64 x140 (.int .i64 1)) fun x141 =>
  Get (elemAddrV 1 x136 x141) fun x142 =>
  Get (load1V x142 H) fun x143 =>
  Get (intConvV .i64 x143) fun x144 =>
  Get (nilV a0) fun x145 =>
  Get (fieldAddrV 5 x145) fun x146 =>
  Get (store1V x146 x144 H) fun H =>
  Get (nilV a0) fun x148 =>
  Get (fieldAddrV 6 x148) fun x149 =>
  Get (store1V x149 (.int .i64 (-1)) H) fun H =>
  R (.tuple #[x123, .nilIface]) H)
def p215 : Plan := .seq (.leaf []) (.seq (.leaf []) (.seq (.seq (.leaf []) (.cond (.seq (.seq (.leaf []) (.cond (.seq (.leaf []) (.leaf [])) (.leaf []))) (.seq (.leaf []) (.leaf []))) (.leaf []))) (.join [] (.seq (.leaf [0, 1, 2, 3, 4, 5, 6, 7, 8]) (.cond (.seq (.seq (.leaf []) (.cond (.seq (.leaf []) (.leaf [])) (.leaf []))) (.seq (.seq (.leaf []) (.cond (.seq (.leaf []) (.join [] (.seq (.leaf []) (.cond (.leaf []) (.leaf []))) (.join [] (.seq (.leaf []) (.cond (.seq (.leaf []) (.leaf [])) (.leaf []))) (.seq (.leaf []) (.leaf []))))) (.leaf []))) (.seq (.leaf []) (.seq (.leaf []) (.seq (.leaf [0, 1, 2, 3, 4, 5, 6, 7, 8, 9, 10, 11, 12, 13, 14, 15, 16, 17, 18]) (.join [] (.seq (.leaf []) (.cond (.leaf []) (.leaf []))) (.seq (.seq (.leaf []) (.cond (.seq (.leaf []) (.leaf [])) (.leaf []))) (.leaf [])))))))) (.leaf []))) (.seq (.leaf [0, 1, 2, 3, 4, 5, 6, 7, 8, 9, 10, 11, 12, 13, 14, 15]) (.seq (.leaf []) (.seq (.leaf [0, 1, 2, 3, 4, 5, 6, 7, 8, 9, 10, 11, 12, 13, 14, 15]) (.seq (.leaf []) (.seq (.leaf []) (.leaf [])))))))))
theorem s215 {a0 a1 : Value} {H : Heap} {R : Value → Heap → Prop} (h : c215 a0 a1 H R) : CallsH Tryz.prog 226 #[a0, a1] H R :=
  callsH_of_eq p215 (fn := Tryz.f226) (c := Tryz.f226.body.getD .skip) (args := [a0, a1]) Tryz.func226 (by kernel_rfl) mixed (by kernel_rfl) (by kernel_rfl) (by kernel_rfl) h
def c225 (a0 a1 : Value) (H : Heap) (R : Value → Heap → Prop) : Prop :=
  New (.cells (Value.cells a0) 128 (0, 0)) H fun x2 H =>
  Get (fieldAddrV 0 x2) fun x11 =>
  Get (load1V x11 H) fun x12 =>
  Fld 1 x12 H fun x16 =>
  Fld 0 x16 H fun x19 =>
  Loop [] H fun K1 _ H =>
  Join (fun K3 =>
  Fld 5 x12 H fun x23 =>
  Get (arithV .eql .i64 x23 (.int .i64 0)) fun x24 =>
  Br x24 (
  Fld 7 x12 H fun x29 =>
  Get (nilV2 .eql .nilIface x29) fun x30 =>
  Get (pickV (.bool true) x30 (.bool false)) fun x31 =>
  K3 [x31] H) (
  Get (pickV (.bool false) undef (.bool false)) fun x31_1 =>
  K3 [x31_1] H)) fun vs4 H =>
  Br (nth vs4 0) (
  CallsH Tryz.prog 61 #[x19] H fun x35 H =>
  CallsH Tryz.prog 169 #[x19, x35] H fun x36 H =>
  Get (extractV x36 0) fun x37 =>
  Get (extractV x36 1) fun _ =>
  Fld 1 x12 H fun x46 =>
  Fld 7 x46 H fun x49 =>
  Fld 1 x12 H fun x53 =>
  Fld 5 x53 H fun x56 =>
  Fld 6 x12 H fun x60 =>
  Fld 8 x12 H fun x64 =>
  CallsH Tryz.prog 237 #[x37, x49, x56, x60, x64] H fun x65 H =>
  Get (extractV x65 0) fun x66 =>
  Get (extractV x65 1) fun x67 =>
  Get (nilV x12) fun x68 =>
  Get (fieldAddrV 5 x68) fun x69 =>
  Get (store1V x69 x66 H) fun H =>
  Get (nilV x12) fun x70 =>
  Get (fieldAddrV 7 x70) fun x71 =>
  Get (store1V x71 x67 H) fun H =>
  Join (fun K5 =>
  Fld 5 x12 H fun x75 =>
  Get (arithV .eql .i64 x75 (.int .i64 0)) fun x76 =>
  Br x76 (
  Fld 7 x12 H fun x81 =>
  Get (nilV2 .eql .nilIface x81) fun x82 =>
  Get (pickV (.bool true) x82 (.bool false)) fun x83 =>
  K5 [x83] H) (
  Get (pickV (.bool false) undef (.bool false)) fun x83_1 =>
  K5 [x83_1] H)) fun vs6 H =>
  Br (nth vs6 0) (
  Get (lenV x37) fun x88 =>
  Get (arithV .add .i64 x88 (.int .i64 1)) fun x89 =>
  CallsH Tryz.prog 169 #[x19, x89] H fun x90 H =>
  Get (extractV x90 0) fun _ =>
  Get (extractV x90 1) fun x92 =>
  Get (nilV x12) fun x93 =>
  Get (fieldAddrV 8 x93) fun x94 =>
  Get (store1V x94 x92 H) fun H =>
  Fld 8 x12 H fun x98 =>
  Get (load1V (.pointer (some ⟨0, 0, none⟩)) H) fun x99 =>
  ExecV Tryz.prog (do eqGuard .eql 43 (.tmp 98) (.tmp 99) x98 x99; binOp .eql 43 x98 x99) H fun x100 H =>
  Br x100 (
  Get (load1V (.pointer (some ⟨27, 0, none⟩)) H) fun x102 =>
  Get (nilV x12) fun x103 =>
  Get (fieldAddrV 8 x103) fun x104 =>
  Get (store1V x104 x102 H) fun H =>
  K1 [] H) (
  K1 [] H)) (
  K1 [] H)) (
  Fld 5 x12 H fun x108 =>
  Get (arithV .eql .i64 x108 (.int .i64 0)) fun x109 =>
  Br x109 (
  Fld 7 x12 H fun x113 =>
  R (.tuple #[(.int .i64 0), x113]) H) (
  Get (lenV a1) fun x115 =>
  Join (fun K7 =>
  Fld 5 x12 H fun x120 =>
  Get (arithV .gtr .i64 x115 x120) fun x121 =>
  Br x121 (
  Fld 5 x12 H fun x125 =>
  K7 [x125] H) (
  K7 [x115] H)) fun vs8 H =>
  Get (sliceV 1 a1 none (some (nth vs8 0)) none) fun x130 =>
  CallsH Tryz.prog 226 #[x19, x130] H fun x131 H =>
  Get (extractV x131 0) fun x132 =>
  Get (extractV x131 1) fun _ =>
  Fld 6 x12 H fun x137 =>
  Get (arithV .add .i64 x137 x132) fun x139 =>
  Get (nilV x12) fun x140 =>
  Get (fieldAddrV 6 x140) fun x141 =>
  Get (store1V x141 x139 H) fun H =>
  Fld 5 x12 H fun x145 =>
  Get (arithV .sub .i64 x145 x132) fun x147 =>
  Get (nilV x12) fun x148 =>
  Get (fieldAddrV 5 x148) fun x149 =>
  Get (store1V x149 x147 H) fun H =>
  Fld 5 x12 H fun x153 =>
  Get (arithV .eql .i64 x153 (.int .i64 0)) fun x154 =>
  Br x154 (
  Fld 7 x12 H fun x159 =>
  R (.tuple #[x132, x159]) H) (
  R (.tuple #[x132, .nilIface]) H)))
def p225 : Plan := .seq (.leaf []) (.seq (.leaf []) (.seq (.leaf []) (.seq (.block (.loop [] (.seq (.join [31] (.leaf []) (.cond (.leaf []) (.leaf []))) (.block (.seq (.leaf []) (.seq (.leaf [0, 1, 2, 3, 4, 5, 6, 7, 8, 9, 10, 11, 12, 13, 14, 15, 16, 17, 18, 19, 20, 21, 22, 23, 24, 25, 26, 27, 28, 29, 30, 31, 32, 33, 34]) (.join [83] (.leaf []) (.cond (.seq (.leaf []) (.seq (.leaf [0, 1, 2, 3, 4, 5]) (.cond (.leaf []) (.leaf [])))) (.leaf []))))))))) (.seq (.seq (.leaf []) (.cond (.seq (.leaf [0, 1, 2, 3, 4, 5]) (.leaf [])) (.leaf []))) (.seq (.leaf []) (.join [10] (.seq (.leaf []) (.cond (.leaf []) (.leaf []))) (.seq (.leaf []) (.seq (.leaf []) (.seq (.leaf []) (.seq (.seq (.leaf []) (.cond (.seq (.leaf [0, 1, 2, 3, 4, 5, 6]) (.leaf [])) (.leaf []))) (.seq (.leaf []) (.leaf []))))))))))))
theorem s225 {a0 a1 : Value} {H : Heap} {R : Value → Heap → Prop} (h : c225 a0 a1 H R) : CallsH Tryz.prog 236 #[a0, a1] H R :=
  callsH_of_eq p225 (fn := Tryz.f236) (c := Tryz.f236.body.getD .skip) (args := [a0, a1]) Tryz.func236 (by kernel_rfl) mixed (by kernel_rfl) (by kernel_rfl) (by kernel_rfl) h
def c226 (a0 a1 a2 a3 a4 : Value) (H : Heap) (R : Value → Heap → Prop) : Prop :=
  Join (fun K1 =>
  Get (arithV .eql .i64 a3 (.int .i64 0)) fun x15 =>
  Br x15 (
  Join (fun K2 =>
  CallsH Tryz.prog 28 #[a0, a1] H fun x18 H =>
  Br x18 (
  CallsH Tryz.prog 238 #[a0, a1, a4] H fun x22 H =>
  Get (arithV .eql .i64 x22 (.int .i64 (-1))) fun x24 =>
  Br x24 (
  Get (lenV a1) fun x26 =>
  R (.tuple #[x26, .nilIface]) H) (
  Get (arithV .eql .i64 x22 (.int .i64 0)) fun x28 =>
  Br x28 (
  R (.tuple #[(.int .i64 0), .nilIface]) H) (
  Get (arithV .eql .i64 x22 (.int .i64 1)) fun x30 =>
  Br x30 (
  Get (load1V (.pointer (some ⟨0, 0, none⟩)) H) fun x31 =>
  R (.tuple #[(.int .i64 0), x31]) H) (
  K2 [] H)))) (
  K2 [] H)) fun _ H =>
  CallsH Tryz.prog 28 #[a1, a0] H fun x34 H =>
  Br x34 (
  R (.tuple #[(.int .i64 0), a4]) H) (
  K1 [] H)) (
  K1 [] H)) fun _ H =>
  Join (fun K5 =>
  CallsH Tryz.prog 239 #[a0, a2] H fun x38 H =>
  Get (arithV .geq .i64 x38 (.int .i64 0)) fun x40 =>
  Br x40 (
  Get (sliceV 1 a0 (some x38) none none) fun x43 =>
  CallsH Tryz.prog 238 #[x43, a2, a4] H fun x46 H =>
  Get (arithV .eql .i64 x46 (.int .i64 (-1))) fun x48 =>
  Br x48 (
  Get (lenV a2) fun x51 =>
  Get (arithV .add .i64 x38 x51) fun x52 =>
  R (.tuple #[x52, .nilIface]) H) (
  Get (arithV .eql .i64 x46 (.int .i64 0)) fun x54 =>
  Br x54 (
  R (.tuple #[x38, .nilIface]) H) (
  Get (arithV .eql .i64 x46 (.int .i64 1)) fun x57 =>
  Br x57 (
  Get (load1V (.pointer (some ⟨0, 0, none⟩)) H) fun x59 =>
  R (.tuple #[x38, x59]) H) (
  K5 [] H)))) (
  K5 [] H)) fun _ H =>
  CallsH Tryz.prog 28 #[a2, a0] H fun x62 H =>
  Br x62 (
  R (.tuple #[(.int .i64 0), a4]) H) (
  Get (elemAddrV 1 a2 (.int .i64 0)) fun x66 =>
  Get (load1V x66 H) fun x67 =>
  CallsH Tryz.prog 240 #[a0, x67] H fun x68 H =>
  Join (fun K7 =>
  Get (arithV .geq .i64 x68 (.int .i64 0)) fun x70 =>
  Br x70 (
  Get (sliceV 1 a0 (some x68) none none) fun x75 =>
  CallsH Tryz.prog 28 #[a2, x75] H fun x76 H =>
  Get (pickV (.bool true) x76 (.bool false)) fun x77 =>
  K7 [x77] H) (
  Get (pickV (.bool false) undef (.bool false)) fun x77_1 =>
  K7 [x77_1] H)) fun vs8 H =>
  Br (nth vs8 0) (
  R (.tuple #[x68, .nilIface]) H) (
  Get (lenV a0) fun x80 =>
  R (.tuple #[x80, a4]) H))
def p226 : Plan := .seq (.leaf []) (.join [] (.seq (.leaf []) (.cond (.join [] (.seq (.leaf []) (.cond (.seq (.leaf []) (.block (.seq (.leaf []) (.cond (.seq (.leaf []) (.leaf [])) (.seq (.leaf []) (.cond (.seq (.leaf []) (.leaf [])) (.seq (.leaf []) (.cond (.seq (.leaf [0, 1, 2]) (.leaf [])) (.leaf []))))))))) (.leaf []))) (.seq (.leaf []) (.cond (.seq (.leaf []) (.leaf [])) (.leaf [])))) (.leaf []))) (.join [] (.seq (.leaf []) (.seq (.leaf []) (.cond (.seq (.leaf []) (.block (.seq (.leaf []) (.cond (.seq (.leaf []) (.leaf [])) (.seq (.leaf []) (.cond (.seq (.leaf []) (.leaf [])) (.seq (.leaf []) (.cond (.seq (.leaf [0, 1, 2, 3]) (.leaf [])) (.leaf []))))))))) (.leaf [])))) (.seq (.seq (.leaf []) (.cond (.seq (.leaf []) (.leaf [])) (.leaf []))) (.seq (.leaf []) (.seq (.join [77] (.leaf []) (.cond (.seq (.leaf []) (.leaf [])) (.leaf []))) (.seq (.leaf []) (.leaf [])))))))
theorem s226 {a0 a1 a2 a3 a4 : Value} {H : Heap} {R : Value → Heap → Prop} (h : c226 a0 a1 a2 a3 a4 H R) : CallsH Tryz.prog 237 #[a0, a1, a2, a3, a4] H R :=
  callsH_of_eq p226 (fn := Tryz.f237) (c := Tryz.f237.body.getD .skip) (args := [a0, a1, a2, a3, a4]) Tryz.func237 (by kernel_rfl) mixed (by kernel_rfl) (by kernel_rfl) (by kernel_rfl) h
def c227 (a0 a1 a2 : Value) (H : Heap) (R : Value → Heap → Prop) : Prop :=
  Get (lenV a0) fun x9 =>
  Get (lenV a1) fun x11 =>
  Get (arithV .eql .i64 x9 x11) fun x12 =>
  Br x12 (
  Get (nilV2 .neq .nilIface a2) fun x14 =>
  Br x14 (
  R (.int .i64 1) H) (
  R (.int .i64 0) H)) (
  Get (lenV a1) fun x17 =>
  Get (elemAddrV 1 a0 x17) fun x18 =>
  Get (load1V x18 H) fun x19 =>
  Join (fun K1 =>
  Get (arithV .eql .u8 x19 (.int .u8 32)) fun x21 =>
  Br x21 (
  Get (pickV (.bool true) (.bool true) undef) fun x25 =>
  Br x25 (
  Get (pickV (.bool true) (.bool true) undef) fun x29 =>
  Br x29 (
  Get (pickV (.bool true) (.bool true) undef) fun x33 =>
  K1 [x33] H) (
  Get (arithV .eql .u8 x19 (.int .u8 10)) fun x32 =>
  Get (pickV (.bool false) (.bool true) x32) fun x33_1 =>
  K1 [x33_1] H)) (
  Get (arithV .eql .u8 x19 (.int .u8 13)) fun x28 =>
  Get (pickV (.bool false) (.bool true) x28) fun x29_1 =>
  Br x29_1 (
  Get (pickV (.bool true) (.bool true) undef) fun x33_2 =>
  K1 [x33_2] H) (
  Get (arithV .eql .u8 x19 (.int .u8 10)) fun x32_1 =>
  Get (pickV (.bool false) (.bool true) x32_1) fun x33_3 =>
  K1 [x33_3] H))) (
  Get (arithV .eql .u8 x19 (.int .u8 9)) fun x24 =>
  Get (pickV (.bool false) (.bool true) x24) fun x25_1 =>
  Br x25_1 (
  Get (pickV (.bool true) (.bool true) undef) fun x29_2 =>
  Br x29_2 (
  Get (pickV (.bool true) (.bool true) undef) fun x33_4 =>
  K1 [x33_4] H) (
  Get (arithV .eql .u8 x19 (.int .u8 10)) fun x32_2 =>
  Get (pickV (.bool false) (.bool true) x32_2) fun x33_5 =>
  K1 [x33_5] H)) (
  Get (arithV .eql .u8 x19 (.int .u8 13)) fun x28_1 =>
  Get (pickV (.bool false) (.bool true) x28_1) fun x29_3 =>
  Br x29_3 (
  Get (pickV (.bool true) (.bool true) undef) fun x33_6 =>
  K1 [x33_6] H) (
  Get (arithV .eql .u8 x19 (.int .u8 10)) fun x32_3 =>
  Get (pickV (.bool false) (.bool true) x32_3) fun x33_7 =>
  K1 [x33_7] H)))) fun vs2 H =>
  Br (nth vs2 0) (
  R (.int .i64 1) H) (
  Join (fun K3 =>
  Get (arithV .eql .u8 x19 (.int .u8 45)) fun x35 =>
  Br x35 (
  Get (lenV a0) fun x37 =>
  Get (lenV a1) fun x39 =>
  Get (arithV .add .i64 x39 (.int .i64 1)) fun x40 =>
  Get (arithV .eql .i64 x37 x40) fun x41 =>
  Br x41 (
  Get (nilV2 .neq .nilIface a2) fun x43 =>
  Br x43 (
  R (.int .i64 (-1)) H) (
  R (.int .i64 0) H)) (
  Get (lenV a1) fun x46 =>
  Get (arithV .add .i64 x46 (.int .i64 1)) fun x47 =>
  Get (elemAddrV 1 a0 x47) fun x48 =>
  Get (load1V x48 H) fun x49 =>
  Get (arithV .eql .u8 x49 (.int .u8 45)) fun x50 =>
  Br x50 (
  R (.int .i64 1) H) (
  K3 [] H))) (
  K3 [] H)) fun _ H =>
  R (.int .i64 (-1)) H))
def p227 : Plan := .seq (.leaf []) (.seq (.seq (.leaf []) (.cond (.seq (.seq (.leaf []) (.cond (.seq (.leaf []) (.leaf [])) (.leaf []))) (.seq (.leaf []) (.leaf []))) (.leaf []))) (.seq (.leaf []) (.seq (.join [33] (.leaf []) (.cond (.seq (.leaf []) (.leaf [])) (.leaf []))) (.join [] (.seq (.leaf []) (.cond (.seq (.seq (.leaf []) (.cond (.seq (.seq (.leaf []) (.cond (.seq (.leaf []) (.leaf [])) (.leaf []))) (.seq (.leaf []) (.leaf []))) (.leaf []))) (.seq (.leaf []) (.cond (.seq (.leaf []) (.leaf [])) (.leaf [])))) (.leaf []))) (.seq (.leaf []) (.leaf []))))))
theorem s227 {a0 a1 a2 : Value} {H : Heap} {R : Value → Heap → Prop} (h : c227 a0 a1 a2 H R) : CallsH Tryz.prog 238 #[a0, a1, a2] H R :=
  callsH_of_eq p227 (fn := Tryz.f238) (c := Tryz.f238.body.getD .skip) (args := [a0, a1, a2]) Tryz.func238 (by kernel_rfl) mixed (by kernel_rfl) (by kernel_rfl) (by kernel_rfl) h
def c228 (a0 a1 : Value) (H : Heap) (R : Value → Heap → Prop) : Prop :=
  Loop [(.int .i64 0)] H fun K1 vs2 H =>
  Get (lenV a1) fun x8 =>
  Get (arithV .add .i64 (nth vs2 0) x8) fun x9 =>
  Get (lenV a0) fun x11 =>
  Get (arithV .leq .i64 x9 x11) fun x12 =>
  Br x12 (
  Get (lenV a1) fun x19 =>
  Get (arithV .add .i64 (nth vs2 0) x19) fun x20 =>
  Get (sliceV 1 a0 (some (nth vs2 0)) (some x20) none) fun x21 =>
  Get (bytesV x21 H) fun x22 =>
  Get (bytesV a1 H) fun x24 =>
  Get (strV .eql x22 x24) fun x25 =>
  Br x25 (
  R (nth vs2 0) H) (
  Get (arithV .add .i64 (nth vs2 0) (.int .i64 1)) fun x14 =>
  K1 [x14] H)) (
  R (.int .i64 (-1)) H)
def p228 : Plan := .seq (.leaf []) (.seq (.seq (.leaf []) (.block (.loop [5] (.seq (.seq (.leaf []) (.cond (.leaf []) (.leaf []))) (.seq (.block (.seq (.leaf [0, 1, 2, 3, 4, 5, 6, 7, 8, 9, 10]) (.cond (.seq (.leaf []) (.leaf [])) (.leaf [])))) (.leaf [])))))) (.seq (.leaf []) (.leaf [])))
theorem s228 {a0 a1 : Value} {H : Heap} {R : Value → Heap → Prop} (h : c228 a0 a1 H R) : CallsH Tryz.prog 239 #[a0, a1] H R :=
  callsH_of_eq p228 (fn := Tryz.f239) (c := Tryz.f239.body.getD .skip) (args := [a0, a1]) Tryz.func239 (by kernel_rfl) mixed (by kernel_rfl) (by kernel_rfl) (by kernel_rfl) h
def c229 (a0 a1 : Value) (H : Heap) (R : Value → Heap → Prop) : Prop :=
  CallsH Tryz.prog 241 #[a0, a1] H fun x7 H =>
  R x7 H
def p229 : Plan := .seq (.leaf []) (.seq (.leaf []) (.leaf []))
theorem s229 {a0 a1 : Value} {H : Heap} {R : Value → Heap → Prop} (h : c229 a0 a1 H R) : CallsH Tryz.prog 240 #[a0, a1] H R :=
  callsH_of_eq p229 (fn := Tryz.f240) (c := Tryz.f240.body.getD .skip) (args := [a0, a1]) Tryz.func240 (by kernel_rfl) mixed (by kernel_rfl) (by kernel_rfl) (by kernel_rfl) h
def c230 (a0 a1 : Value) (H : Heap) (R : Value → Heap → Prop) : Prop :=
  Get (lenV a0) fun x7 =>
  Get (arithV .sub .i64 x7 (.int .i64 1)) fun x8 =>
  Loop [x8] H fun K1 vs2 H =>
  Get (arithV .geq .i64 (nth vs2 0) (.int .i64 0)) fun x10 =>
  Br x10 (
  Get (elemAddrV 1 a0 (nth vs2 0)) fun x15 =>
  Get (load1V x15 H) fun x16 =>
  Get (arithV .eql .u8 x16 a1) fun x18 =>
  Br x18 (
  R (nth vs2 0) H) (
  Get (arithV .sub .i64 (nth vs2 0) (.int .i64 1)) fun x12 =>
  K1 [x12] H)) (
  R (.int .i64 (-1)) H)
def p230 : Plan := .seq (.leaf []) (.seq (.seq (.leaf []) (.block (.loop [5] (.seq (.seq (.leaf []) (.cond (.leaf []) (.leaf []))) (.seq (.block (.seq (.leaf []) (.cond (.seq (.leaf []) (.leaf [])) (.leaf [])))) (.leaf [])))))) (.seq (.leaf []) (.leaf [])))
theorem s230 {a0 a1 : Value} {H : Heap} {R : Value → Heap → Prop} (h : c230 a0 a1 H R) : CallsH Tryz.prog 241 #[a0, a1] H R :=
  callsH_of_eq p230 (fn := Tryz.f241) (c := Tryz.f241.body.getD .skip) (args := [a0, a1]) Tryz.func241 (by kernel_rfl) mixed (by kernel_rfl) (by kernel_rfl) (by kernel_rfl) h
def c213 (a0 a1 : Value) (H : Heap) (R : Value → Heap → Prop) : Prop :=
  Fld 4 a0 H fun x9 =>
  Invoke Tryz.prog "Read" x9 #[a1] H fun x11 H =>
  Get (extractV x11 0) fun x12 =>
  Get (extractV x11 1) fun x13 =>
  R (.tuple #[x12, x13]) H
def p213 : Plan := .seq (.leaf []) (.seq (.leaf []) (.leaf []))
theorem s213 {a0 a1 : Value} {H : Heap} {R : Value → Heap → Prop} (h : c213 a0 a1 H R) : CallsH Tryz.prog 218 #[a0, a1] H R :=
  callsH_of_eq p213 (fn := Tryz.f218) (c := Tryz.f218.body.getD .skip) (args := [a0, a1]) Tryz.func218 (by kernel_rfl) mixed (by kernel_rfl) (by kernel_rfl) (by kernel_rfl) h
def c108 (a0 : Value) (H : Heap) (R : Value → Heap → Prop) : Prop :=
  New (.cells (Array.replicate 512 (.int .u8 0)) 153 (0, 0)) H fun x2 H =>
  Loop [] H fun K1 _ H =>
  Get (arrSliceV 512 1 x2 none none none) fun x7 =>
  Get (nilV (.func (.method "Read") #[a0] #[])) fun _ =>
  Invoke Tryz.prog "Read" a0 #[x7] H fun x11 H =>
  Get (extractV x11 0) fun _ =>
  Get (extractV x11 1) fun x13 =>
  Get (nilV2 .neq .nilIface x13) fun x15 =>
  Br x15 (
  R (.tuple #[]) H) (
  K1 [] H)
def p108 : Plan := .seq (.leaf []) (.block (.loop [] (.block (.seq (.leaf [0, 1, 2, 3, 4, 5, 6, 7, 8, 9, 10]) (.seq (.leaf []) (.cond (.leaf []) (.leaf [])))))))
theorem s108 {a0 : Value} {H : Heap} {R : Value → Heap → Prop} (h : c108 a0 H R) : CallsH Tryz.prog 58 #[a0] H R :=
  callsH_of_eq p108 (fn := Tryz.f58) (c := Tryz.f58.body.getD .skip) (args := [a0]) Tryz.func58 (by kernel_rfl) mixed (by kernel_rfl) (by kernel_rfl) (by kernel_rfl) h
def c92 (a0 : Value) (H : Heap) (R : Value → Heap → Prop) : Prop :=
  Get (some (Value.iface 41 a0)) fun x4 =>
  CallsH Tryz.prog 58 #[x4] H fun _ H =>
  R .nilIface H
def p92 : Plan := .seq (.leaf []) (.seq (.leaf []) (.seq (.leaf []) (.leaf [])))
theorem s92 {a0 : Value} {H : Heap} {R : Value → Heap → Prop} (h : c92 a0 H R) : CallsH Tryz.prog 44 #[a0] H R :=
  callsH_of_eq p92 (fn := Tryz.f44) (c := Tryz.f44.body.getD .skip) (args := [a0]) Tryz.func44 (by kernel_rfl) mixed (by kernel_rfl) (by kernel_rfl) (by kernel_rfl) h
def c68 (a0 : Value) (H : Heap) (R : Value → Heap → Prop) : Prop :=
  MakeSlice 5 1 1 #[(.int .u8 0)] (.int .i64 500) (.int .i64 500) H fun x8 H =>
  Loop [(.slice none 0 0)] H fun K1 vs2 H =>
  Invoke Tryz.prog "Read" a0 #[x8] H fun x12 H =>
  Get (extractV x12 0) fun x13 =>
  Get (extractV x12 1) fun x14 =>
  Get (sliceV 1 x8 none (some x13) none) fun x18 =>
  Append 5 1 1 #[(.int .u8 0)] (nth vs2 0) x18 H fun x19 H =>
  Get (nilV2 .neq .nilIface x14) fun x21 =>
  Br x21 (
  Get (load1V (.pointer (some ⟨0, 0, none⟩)) H) fun x24 =>
  ExecV Tryz.prog (do eqGuard .eql 43 (.tmp 23) (.tmp 24) x14 x24; binOp .eql 43 x14 x24) H fun x25 H =>
  R (.tuple #[x19, x25]) H) (
  K1 [x19] H)
def p68 : Plan := .seq (.leaf []) (.seq (.leaf []) (.seq (.leaf []) (.block (.loop [4] (.block (.seq (.leaf []) (.seq (.leaf []) (.seq (.leaf []) (.cond (.seq (.leaf [0, 1, 2, 3, 4, 5]) (.leaf [])) (.leaf []))))))))))
theorem s68 {a0 : Value} {H : Heap} {R : Value → Heap → Prop} (h : c68 a0 H R) : CallsH Tryz.prog 18 #[a0] H R :=
  callsH_of_eq p68 (fn := Tryz.f18) (c := Tryz.f18.body.getD .skip) (args := [a0]) Tryz.func18 (by kernel_rfl) mixed (by kernel_rfl) (by kernel_rfl) (by kernel_rfl) h
end Go.Cps
namespace Go.Cps
open Go Go.Proofs
theorem RdAt.rest_len {S : Stk} {s : St} {H : Heap} (h : RdAt S s H) : (s.rest S).length = (s.w - s.r) + (S.l.length - s.pos) := by
  rw [St.rest_eq, List.length_append, h.bufd_len, List.length_drop]
structure Peeked (S : Stk) (s s' : St) (n : Nat) (u : Value) (H H' : Heap) : Prop where
  rd : RdAt S s' H'
  rest : s'.rest S = s.rest S
  bytes : IsBytes H' u ((s.rest S).take n)
  blk : Go.Cps.blk u = some S.bf
  grown : s.w - s.r ≤ s'.w - s'.r
  enough : min n (s.rest S).length ≤ s'.w - s'.r
  same : n ≤ s.w - s.r → s'.buf = s.buf ∧ s'.r = s.r ∧ s'.w = s.w ∧ s'.err = s.err ∧ s'.pos = s.pos
  ended : (s.rest S).length < n → s'.pos = S.l.length ∧ s'.w - s'.r = (s.rest S).length
  frm : Frm S.ids H H'
  size : H'.size = H.size
theorem peek_ok {S : Stk} {s : St} {H : Heap} (h : RdAt S s H) {n : Nat} (hn : n ≤ 4096) :
    CallsH Tryz.prog 169 #[.pointer (some ⟨S.b, 0, none⟩), .int .i64 n] H fun x H' => ∃ u s', x = .tuple #[u, S.er (decide ((s.rest S).length < n))] ∧ Peeked S s s' n u H H' := by
  have d0 : decide ((n : Int) < 0) = false := by simp
  apply s166
  simp only [c166, Q0, Q1, Q2, Q3, Q4, Q5, Q6, Q7, Q8, Q9, Qa, Qb, Qc, Qd, Qe, Qf, Qg, Qh, Qi, Qj, Qk, Ql, Qm, Qn, Qo, Qp, Qq, Qr, Qs, d0]
  refine h.store { s with lb := -1 } (by omega) rfl (by simp only [bufCells, Qt, Qu, Qv]) rfl rfl rfl rfl h.rw h.w4 h.he fun H1 h1 f1 z1 => ?_
  refine h1.store { s with lb := -1, lr := -1 } (by omega) rfl (by simp only [bufCells, Qt, Qu, Qv]) rfl rfl rfl rfl h.rw h.w4 h.he fun H2 h2 f2 z2 => ?_
  refine ⟨fun m vs H3 => ∃ s3, vs = [] ∧ m = ((s.rest S).length - (s3.w - s3.r)) + (if s3.err then 0 else 1) ∧ RdAt S s3 H3 ∧ s3.rest S = s.rest S ∧ s.w - s.r ≤ s3.w - s3.r ∧ (n ≤ s.w - s.r → s3 = { s with lb := -1, lr := -1 }) ∧ Frm S.ids H H3 ∧ H3.size = H.size,
    ⟨_, _, rfl, rfl, h2, rfl, Nat.le_refl _, fun _ => rfl, f1.trans f2, by omega⟩, ?_⟩
  rintro m vs H3 ⟨s3, rfl, rfl, h3, hr, hg, hsame, f3, z3⟩
  have hrw := h3.rw
  have hw4 := h3.w4
  have hrl := h3.rest_len
  have e1 : IntKind.i64.wrap ((s3.w : Int) - (s3.r : Int)) = ((s3.w - s3.r : Nat) : Int) := by rw [wrap_i64 (by omega) (by omega)]; omega
  refine ⟨fun vs H' => H' = H3 ∧ vs = [.bool (decide (s3.w - s3.r < n) && (decide (s3.w - s3.r < 4096) && !s3.err))], ?_, ?_⟩
  · have dd : ∀ a b : Nat, decide ((a : Int) < (b : Int)) = decide (a < b) := fun a b => by simp
    have neq : nilV2 .eql .nilIface (S.er s3.err) = some (.bool (!s3.err)) := by cases s3.err <;> rfl
    simp only [Q0, Q1, Q2, Q3, Q4, Q5, Q6, Q7, Q8, Q9, Qa, Qb, Qc, Qd, Qe, Qf, Qg, Qh, Qi, Qj, Qk, Ql, Qm, Qn, Qo, Qp, Qq, Qr, Qs, cellH_of h3.hb, bufCells, e1, dd, neq]
    refine Br_intro (fun hh => ?_) (fun hh => ?_) <;> simp only [Q0, Q1, Q2, Q3, Q4, Q5, Q6, Q7, Q8, Q9, Qa, Qb, Qc, Qd, Qe, Qf, Qg, Qh, Qi, Qj, hh, Bool.false_eq_true, if_false, if_true]
    · refine Br_intro (fun h4 => ?_) (fun h4 => ?_) <;> simp [h4]
    · simp
  · rintro _ H3 ⟨rfl, rfl⟩
    simp only [Q0, Q1, Q2, Q3, Q4, Q5, Q6, Q7, Q8, Q9, Qa, Qb, Qc, Qd, Qe, Qf, Qg, Qh, Qi, Qj]
    refine Br_intro (fun hc => ?_) (fun hc => ?_)
    · simp only [Bool.and_eq_true, decide_eq_true_eq, Bool.not_eq_true'] at hc
      refine (fill_ok h3 hc.2.2 hc.2.1).mono ?_
      rintro _ H4 ⟨s4, h4, hf, f4, z4⟩
      have hr4 := hf.rest.trans hr
      have hrl4 := h4.rest_len
      have hr0 := hf.r0
      rw [hr4] at hrl4
      rw [hr] at hrl
      refine ⟨_, ?_, s4, trivial, rfl, h4, hr4, ?_, fun hh => ?_, f3.trans f4, by omega⟩
      · rcases hf.how with ⟨_, hh, hh2⟩ | ⟨_, hh, hh2⟩
        · simp only [hh, hc.2.2, Bool.false_eq_true, if_false]; omega
        · simp only [hh, hc.2.2, Bool.false_eq_true, if_false, if_true]; omega
      · rcases hf.how with ⟨_, hh, hh2⟩ | ⟨_, hh, hh2⟩ <;> omega
      · omega
    · have d3 : decide ((n : Int) > ((4096 : Nat) : Int)) = false := by simp; omega
      simp only [Q0, Q1, Q2, Q3, Q4, Q5, Q6, Q7, Q8, Q9, Qa, Qb, Qc, Qd, Qe, Qf, Qg, Qh, Qi, Qj, Qk, Ql, Qm, Qn, Qo, Qp, Qq, Qr, Qs, cellH_of h3.hb, bufCells, d3, e1]
      rw [hr] at hrl
      have hcc : n ≤ s3.w - s3.r ∨ (s3.w - s3.r < n ∧ s3.err = true) := by
        by_cases h5 : s3.w - s3.r < n
        · refine .inr ⟨h5, ?_⟩
          have h6 : s3.w - s3.r < 4096 := by omega
          simpa [h5, h6] using hc
        · exact .inl (by omega)
      have hprt : (s.rest S).take n = s3.bufd.take n ∨ s3.w - s3.r < n := by
        by_cases h5 : s3.w - s3.r < n
        · exact .inr h5
        · left
          rw [← hr, St.rest_eq, List.take_append_of_le_length (by rw [h3.bufd_len]; omega)]
      rcases hcc with hle | ⟨hlt, herr⟩
      · have hd : decide (((s3.w - s3.r : Nat) : Int) < (n : Int)) = false := by simp; omega
        have hdr : decide ((s.rest S).length < n) = false := by simp; omega
        refine Join_direct ?_
        have e2 : IntKind.i64.wrap ((s3.r : Int) + (n : Int)) = ((s3.r + n : Nat) : Int) := by rw [wrap_i64 (by omega) (by omega)]; omega
        obtain ⟨y, hy, hyb, hyk, _⟩ := h3.part' (i := s3.r) (j := s3.r + n) (by omega) (by omega)
        simp only [Q0, Q1, Q2, Q3, Q4, Q5, Q6, Q7, Q8, Q9, Qa, Qb, Qc, Qd, Qe, Qf, Qg, Qh, Qi, Qj, Qk, Ql, Qm, Qn, Qo, Qp, Qq, Qr, Qs, cellH_of h3.hb, bufCells, hd, e2, hy, hdr]
        refine ⟨y, s3, rfl, h3, hr, ?_, hyk, hg, by omega, fun hh => ?_, fun hh => by omega, f3, z3⟩
        · rcases hprt with hp | hp
          · rw [hp, St.bufd, List.take_drop, List.take_take, Nat.min_eq_left (by omega)]
            exact hyb
          · omega
        · rw [hsame hh]; exact ⟨rfl, rfl, rfl, rfl, rfl⟩
      · have hp := h3.he herr
        have hd : decide (((s3.w - s3.r : Nat) : Int) < (n : Int)) = true := by simp; omega
        have hdr : decide ((s.rest S).length < n) = true := by simp; omega
        refine Join_direct ?_
        simp only [Q0, Q1, Q2, Q3, Q4, Q5, Q6, Q7, Q8, Q9, Qa, Qb, Qc, Qd, Qe, Qf, Qg, Qh, Qi, Qj, Qk, Ql, Qm, Qn, Qo, Qp, Qq, Qr, Qs, cellH_of h3.hb, bufCells, hd]
        refine (readErr_ok h3).mono ?_
        rintro x H4 ⟨rfl, h4, f4, z4⟩
        have neq : nilV2 .eql .nilIface (S.er true) = some (.bool false) := rfl
        have e2 : IntKind.i64.wrap ((s3.r : Int) + ((s3.w - s3.r : Nat) : Int)) = ((s3.w : Nat) : Int) := by rw [wrap_i64 (by omega) (by omega)]; omega
        obtain ⟨y, hy, hyb, hyk, _⟩ := h4.part' (i := s3.r) (j := s3.w) hrw hw4
        simp only [Q0, Q1, Q2, Q3, Q4, Q5, Q6, Q7, Q8, Q9, Qa, Qb, Qc, Qd, Qe, Qf, Qg, Qh, Qi, Qj, Qk, Ql, Qm, Qn, Qo, Qp, Qq, Qr, Qs, cellH_of h4.hb, bufCells, neq, e2, hy, hdr, herr]
        refine ⟨y, _, rfl, h4, hr, ?_, hyk, hg, by simp only []; omega, fun hh => by omega, fun _ => ⟨hp, by simp only []; omega⟩, f3.trans f4, by omega⟩
        rw [List.take_of_length_le (by omega), ← hr, St.rest_eq, hp, List.drop_length, List.append_nil]
        exact hyb
end Go.Cps
