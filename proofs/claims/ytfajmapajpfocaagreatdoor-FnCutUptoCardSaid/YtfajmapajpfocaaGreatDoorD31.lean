/-
  A part of the proof (its texts: GF, L81): each text says below what it proves.
  Conditions: each contract's own.
-/
import Derived.Test.YtfajmapajpfocaaGreatDoorD4
import Derived.Test.YtfajmapajpfocaaGreatDoorD30
set_option linter.all false
/-
  What the bodies of some functions of the program come to, at heap level, each proved of the program itself.
  Conditions: none. Written by gen.py.
-/
namespace Go.Cps
open Go Go.Proofs
set_option maxRecDepth 100000

/-- spec.Close -/
def c19 (a0 : Value) (H : Heap) (R : Value → Heap → Prop) : Prop :=
  Get (strV .add (.string ⟨#[13, 10, 45, 45]⟩) a0) fun x4 =>
  Get (strV .add x4 (.string ⟨#[45, 45, 13, 10]⟩)) fun x5 =>
  ToBytes 5 x5 H fun x6 H =>
  R x6 H
def p19 : Plan := .seq (.leaf []) (.seq (.leaf []) (.leaf []))
theorem s19 {a0 : Value} {H : Heap} {R : Value → Heap → Prop} (h : c19 a0 H R) : CallsH Tryz.prog 19 #[a0] H R :=
  callsH_of_eq p19 (fn := Tryz.f19) (c := Tryz.f19.body.getD .skip) (args := [a0]) Tryz.func19 (by kernel_rfl) mixed (by kernel_rfl) (by kernel_rfl) (by kernel_rfl) h

/-- laws.FnCut -/
def c5 (a0 a1 a2 : Value) (H : Heap) (R : Value → Heap → Prop) : Prop :=
  Join (fun K1 =>
  CallsH Tryz.prog 17 #[a0] H fun x15 H =>
  Get (unV .not x15) fun x16 =>
  Br x16 (
  Get (pickV (.bool true) (.bool true) undef) fun x21 =>
  K1 [x21] H) (
  Get (lenStrV a1) fun x19 =>
  Get (arithV .gtr .i64 x19 (.int .i64 2147483647)) fun x20 =>
  Get (pickV (.bool false) (.bool true) x20) fun x21_1 =>
  K1 [x21_1] H)) fun vs2 H =>
  Br (nth vs2 0) (
  R (.bool true) H) (
  Get (lenStrV a1) fun x23 =>
  Get (arithV .gtr .i64 x23 (.int .i64 16777216)) fun x24 =>
  Br x24 (
  R (.bool true) H) (
  Get (lenV a0) fun x26 =>
  Get (arithV .sub .i64 x26 (.int .i64 1)) fun x27 =>
  Join (fun K3 =>
  Get (arithV .lss .i64 x27 (.int .i64 0)) fun x29 =>
  Br x29 (
  Get (pickV (.bool true) (.bool true) undef) fun x35 =>
  Br x35 (
  Get (pickV (.bool true) (.bool true) undef) fun x39 =>
  Br x39 (
  Get (pickV (.bool true) (.bool true) undef) fun x49 =>
  K3 [x49] H) (
  Get (elemAddrV 2 a0 x27) fun x44 =>
  Get (fieldAddrV 1 x44) fun x45 =>
  Get (load1V x45 H) fun x46 =>
  Get (lenV x46) fun x47 =>
  Get (arithV .gtr .i64 a2 x47) fun x48 =>
  Get (pickV (.bool false) (.bool true) x48) fun x49_1 =>
  K3 [x49_1] H)) (
  Get (arithV .lss .i64 a2 (.int .i64 0)) fun x38 =>
  Get (pickV (.bool false) (.bool true) x38) fun x39_1 =>
  Br x39_1 (
  Get (pickV (.bool true) (.bool true) undef) fun x49_2 =>
  K3 [x49_2] H) (
  Get (elemAddrV 2 a0 x27) fun x44_1 =>
  Get (fieldAddrV 1 x44_1) fun x45_1 =>
  Get (load1V x45_1 H) fun x46_1 =>
  Get (lenV x46_1) fun x47_1 =>
  Get (arithV .gtr .i64 a2 x47_1) fun x48_1 =>
  Get (pickV (.bool false) (.bool true) x48_1) fun x49_3 =>
  K3 [x49_3] H))) (
  CallsH Tryz.prog 18 #[a0, a1] H fun x33 H =>
  Get (unV .not x33) fun x34 =>
  Get (pickV (.bool false) (.bool true) x34) fun x35_1 =>
  Br x35_1 (
  Get (pickV (.bool true) (.bool true) undef) fun x39_2 =>
  Br x39_2 (
  Get (pickV (.bool true) (.bool true) undef) fun x49_4 =>
  K3 [x49_4] H) (
  Get (elemAddrV 2 a0 x27) fun x44_2 =>
  Get (fieldAddrV 1 x44_2) fun x45_2 =>
  Get (load1V x45_2 H) fun x46_2 =>
  Get (lenV x46_2) fun x47_2 =>
  Get (arithV .gtr .i64 a2 x47_2) fun x48_2 =>
  Get (pickV (.bool false) (.bool true) x48_2) fun x49_5 =>
  K3 [x49_5] H)) (
  Get (arithV .lss .i64 a2 (.int .i64 0)) fun x38_1 =>
  Get (pickV (.bool false) (.bool true) x38_1) fun x39_3 =>
  Br x39_3 (
  Get (pickV (.bool true) (.bool true) undef) fun x49_6 =>
  K3 [x49_6] H) (
  Get (elemAddrV 2 a0 x27) fun x44_3 =>
  Get (fieldAddrV 1 x44_3) fun x45_3 =>
  Get (load1V x45_3 H) fun x46_3 =>
  Get (lenV x46_3) fun x47_3 =>
  Get (arithV .gtr .i64 a2 x47_3) fun x48_3 =>
  Get (pickV (.bool false) (.bool true) x48_3) fun x49_7 =>
  K3 [x49_7] H)))) fun vs4 H =>
  Br (nth vs4 0) (
  R (.bool true) H) (
  CallsH Tryz.prog 10 #[a1, a0] H fun x53 H =>
  Get (extractV x53 0) fun x54 =>
  Get (extractV x53 1) fun x55 =>
  Get (lenV x54) fun x57 =>
  Get (elemAddrV 2 a0 x27) fun x64 =>
  Get (fieldAddrV 1 x64) fun x65 =>
  Get (load1V x65 H) fun x66 =>
  CallsH Tryz.prog 19 #[a1] H fun x59 H =>
  (load1V x65 H = some x66 ∧ True) ∧
  Get (lenV x59) fun x60 =>
  Get (arithV .sub .i64 x57 x60) fun x61 =>
  Get (lenV x66) fun x67 =>
  Get (arithV .sub .i64 x61 x67) fun x68 =>
  Get (arithV .add .i64 x68 a2) fun x70 =>
  Join (fun K5 =>
  Get (unV .not x55) fun x72 =>
  Br x72 (
  Get (pickV (.bool true) (.bool true) undef) fun x76 =>
  Br x76 (
  Get (pickV (.bool true) (.bool true) undef) fun x82 =>
  K5 [x82] H) (
  Get (lenV x54) fun x80 =>
  Get (arithV .gtr .i64 x70 x80) fun x81 =>
  Get (pickV (.bool false) (.bool true) x81) fun x82_1 =>
  K5 [x82_1] H)) (
  Get (arithV .lss .i64 x70 (.int .i64 0)) fun x75 =>
  Get (pickV (.bool false) (.bool true) x75) fun x76_1 =>
  Br x76_1 (
  Get (pickV (.bool true) (.bool true) undef) fun x82_2 =>
  K5 [x82_2] H) (
  Get (lenV x54) fun x80_1 =>
  Get (arithV .gtr .i64 x70 x80_1) fun x81_1 =>
  Get (pickV (.bool false) (.bool true) x81_1) fun x82_3 =>
  K5 [x82_3] H))) fun vs6 H =>
  Br (nth vs6 0) (
  R (.bool false) H) (
  Get (sliceV 1 x54 none (some x70) none) fun x86 =>
  CallsH Tryz.prog 11 #[x86, a1] H fun x88 H =>
  Get (extractV x88 0) fun x89 =>
  Get (extractV x88 1) fun x90 =>
  CallsH Tryz.prog 20 #[a0] H fun x92 H =>
  Join (fun K7 =>
  Get (arithV .neq .i64 x90 (.int .i64 2)) fun x94 =>
  Br x94 (
  Get (pickV (.bool true) (.bool true) undef) fun x101 =>
  Br x101 (
  Get (pickV (.bool true) (.bool true) undef) fun x111 =>
  K7 [x111] H) (
  Get (sliceV 2 x89 none (some x27) none) fun x105 =>
  Get (sliceV 2 x92 none (some x27) none) fun x108 =>
  CallsH Tryz.prog 15 #[x105, x108] H fun x109 H =>
  Get (unV .not x109) fun x110 =>
  Get (pickV (.bool false) (.bool true) x110) fun x111_1 =>
  K7 [x111_1] H)) (
  Get (lenV x89) fun x97 =>
  Get (lenV a0) fun x99 =>
  Get (arithV .neq .i64 x97 x99) fun x100 =>
  Get (pickV (.bool false) (.bool true) x100) fun x101_1 =>
  Br x101_1 (
  Get (pickV (.bool true) (.bool true) undef) fun x111_2 =>
  K7 [x111_2] H) (
  Get (sliceV 2 x89 none (some x27) none) fun x105_1 =>
  Get (sliceV 2 x92 none (some x27) none) fun x108_1 =>
  CallsH Tryz.prog 15 #[x105_1, x108_1] H fun x109_1 H =>
  Get (unV .not x109_1) fun x110_1 =>
  Get (pickV (.bool false) (.bool true) x110_1) fun x111_3 =>
  K7 [x111_3] H))) fun vs8 H =>
  Br (nth vs8 0) (
  R (.bool false) H) (
  Join (fun K9 =>
  Get (elemAddrV 2 x89 x27) fun x114 =>
  Get (fieldAddrV 0 x114) fun x115 =>
  Get (load1V x115 H) fun x116 =>
  Get (elemAddrV 2 x92 x27) fun x119 =>
  Get (fieldAddrV 0 x119) fun x120 =>
  Get (load1V x120 H) fun x121 =>
  CallsH Tryz.prog 21 #[x116, x121] H fun x122 H =>
  Br x122 (
  Get (elemAddrV 2 x89 x27) fun x126 =>
  Get (fieldAddrV 1 x126) fun x127 =>
  Get (load1V x127 H) fun x128 =>
  Get (lenV x128) fun x129 =>
  Get (arithV .leq .i64 x129 a2) fun x131 =>
  Get (pickV (.bool true) x131 (.bool false)) fun x132 =>
  Br x132 (
  Get (elemAddrV 2 x89 x27) fun x136 =>
  Get (fieldAddrV 1 x136) fun x137 =>
  Get (load1V x137 H) fun x138 =>
  Get (bytesV x138 H) fun x139 =>
  Get (elemAddrV 2 a0 x27) fun x142 =>
  Get (fieldAddrV 1 x142) fun x143 =>
  Get (load1V x143 H) fun x144 =>
  Get (elemAddrV 2 x89 x27) fun x147 =>
  Get (fieldAddrV 1 x147) fun x148 =>
  Get (load1V x148 H) fun x149 =>
  Get (lenV x149) fun x150 =>
  Get (sliceV 1 x144 none (some x150) none) fun x151 =>
  Get (bytesV x151 H) fun x152 =>
  Get (strV .eql x139 x152) fun x153 =>
  Get (pickV (.bool true) x153 (.bool false)) fun x154 =>
  K9 [x154] H) (
  Get (pickV (.bool false) undef (.bool false)) fun x154_1 =>
  K9 [x154_1] H)) (
  Get (pickV (.bool false) undef (.bool false)) fun x132_1 =>
  Br x132_1 (
  Get (elemAddrV 2 x89 x27) fun x136_1 =>
  Get (fieldAddrV 1 x136_1) fun x137_1 =>
  Get (load1V x137_1 H) fun x138_1 =>
  Get (bytesV x138_1 H) fun x139_1 =>
  Get (elemAddrV 2 a0 x27) fun x142_1 =>
  Get (fieldAddrV 1 x142_1) fun x143_1 =>
  Get (load1V x143_1 H) fun x144_1 =>
  Get (elemAddrV 2 x89 x27) fun x147_1 =>
  Get (fieldAddrV 1 x147_1) fun x148_1 =>
  Get (load1V x148_1 H) fun x149_1 =>
  Get (lenV x149_1) fun x150_1 =>
  Get (sliceV 1 x144_1 none (some x150_1) none) fun x151_1 =>
  Get (bytesV x151_1 H) fun x152_1 =>
  Get (strV .eql x139_1 x152_1) fun x153_1 =>
  Get (pickV (.bool true) x153_1 (.bool false)) fun x154_2 =>
  K9 [x154_2] H) (
  Get (pickV (.bool false) undef (.bool false)) fun x154_3 =>
  K9 [x154_3] H))) fun vs10 H =>
  R (nth vs10 0) H)))))
def p5 : Plan := .seq (.leaf []) (.seq (.join [21] (.leaf []) (.cond (.seq (.leaf []) (.leaf [])) (.leaf []))) (.seq (.seq (.leaf []) (.cond (.seq (.leaf []) (.leaf [])) (.leaf []))) (.seq (.leaf []) (.seq (.join [49] (.leaf []) (.cond (.seq (.leaf []) (.leaf [])) (.leaf []))) (.seq (.leaf []) (.seq (.leaf [0, 1, 2, 6, 7, 8, 9, 10, 3, 4, 5, 11, 12, 13, 14, 15]) (.seq (.join [82] (.leaf []) (.cond (.seq (.leaf []) (.leaf [])) (.leaf []))) (.seq (.leaf []) (.seq (.leaf []) (.seq (.join [111] (.leaf [0, 1, 2, 3, 4, 5, 6, 7, 8, 9, 10, 11, 12, 13, 14, 15, 16, 17, 18]) (.cond (.seq (.leaf []) (.leaf [])) (.leaf []))) (.join [6] (.leaf [0, 1, 2, 3, 4, 5, 6, 7, 8, 9, 10, 11, 12, 13, 14, 15, 16, 17, 18, 19, 20, 21, 22, 23, 24, 25, 26, 27, 28, 29, 30, 31, 32, 33, 34, 35, 36, 37, 38, 39, 40, 41, 42, 43]) (.leaf []))))))))))))
theorem s5 {a0 a1 a2 : Value} {H : Heap} {R : Value → Heap → Prop} (h : c5 a0 a1 a2 H R) : CallsH Tryz.prog 5 #[a0, a1, a2] H R :=
  callsH_of_eq p5 (fn := Tryz.f5) (c := Tryz.f5.body.getD .skip) (args := [a0, a1, a2]) Tryz.func5 (by kernel_rfl) mixed (by kernel_rfl) (by kernel_rfl) (by kernel_rfl) h

/-- laws.FnNested -/
def c6 (a0 a1 a2 a3 : Value) (H : Heap) (R : Value → Heap → Prop) : Prop :=
  Join (fun K1 =>
  CallsH Tryz.prog 17 #[a0] H fun x19 H =>
  Get (unV .not x19) fun x20 =>
  Br x20 (
  Get (pickV (.bool true) (.bool true) undef) fun x25 =>
  Br x25 (
  Get (pickV (.bool true) (.bool true) undef) fun x30 =>
  Br x30 (
  Get (pickV (.bool true) (.bool true) undef) fun x35 =>
  K1 [x35] H) (
  Get (lenStrV a3) fun x33 =>
  Get (arithV .gtr .i64 x33 (.int .i64 2147483647)) fun x34 =>
  Get (pickV (.bool false) (.bool true) x34) fun x35_1 =>
  K1 [x35_1] H)) (
  CallsH Tryz.prog 22 #[a2] H fun x28 H =>
  Get (unV .not x28) fun x29 =>
  Get (pickV (.bool false) (.bool true) x29) fun x30_1 =>
  Br x30_1 (
  Get (pickV (.bool true) (.bool true) undef) fun x35_2 =>
  K1 [x35_2] H) (
  Get (lenStrV a3) fun x33_1 =>
  Get (arithV .gtr .i64 x33_1 (.int .i64 2147483647)) fun x34_1 =>
  Get (pickV (.bool false) (.bool true) x34_1) fun x35_3 =>
  K1 [x35_3] H))) (
  Get (lenStrV a1) fun x23 =>
  Get (arithV .gtr .i64 x23 (.int .i64 2147483647)) fun x24 =>
  Get (pickV (.bool false) (.bool true) x24) fun x25_1 =>
  Br x25_1 (
  Get (pickV (.bool true) (.bool true) undef) fun x30_2 =>
  Br x30_2 (
  Get (pickV (.bool true) (.bool true) undef) fun x35_4 =>
  K1 [x35_4] H) (
  Get (lenStrV a3) fun x33_2 =>
  Get (arithV .gtr .i64 x33_2 (.int .i64 2147483647)) fun x34_2 =>
  Get (pickV (.bool false) (.bool true) x34_2) fun x35_5 =>
  K1 [x35_5] H)) (
  CallsH Tryz.prog 22 #[a2] H fun x28_1 H =>
  Get (unV .not x28_1) fun x29_1 =>
  Get (pickV (.bool false) (.bool true) x29_1) fun x30_3 =>
  Br x30_3 (
  Get (pickV (.bool true) (.bool true) undef) fun x35_6 =>
  K1 [x35_6] H) (
  Get (lenStrV a3) fun x33_3 =>
  Get (arithV .gtr .i64 x33_3 (.int .i64 2147483647)) fun x34_3 =>
  Get (pickV (.bool false) (.bool true) x34_3) fun x35_7 =>
  K1 [x35_7] H)))) fun vs2 H =>
  Br (nth vs2 0) (
  R (.bool true) H) (
  Join (fun K3 =>
  Get (lenStrV a1) fun x37 =>
  Get (arithV .gtr .i64 x37 (.int .i64 16777216)) fun x38 =>
  Br x38 (
  Get (pickV (.bool true) (.bool true) undef) fun x43 =>
  K3 [x43] H) (
  Get (lenStrV a3) fun x41 =>
  Get (arithV .gtr .i64 x41 (.int .i64 16777216)) fun x42 =>
  Get (pickV (.bool false) (.bool true) x42) fun x43_1 =>
  K3 [x43_1] H)) fun vs4 H =>
  Br (nth vs4 0) (
  R (.bool true) H) (
  CallsH Tryz.prog 10 #[a1, a0] H fun x47 H =>
  Get (extractV x47 0) fun x48 =>
  Get (extractV x47 1) fun x49 =>
  Get ((fillV #[(0, 1), (1, 1)] #[(.slice none 0 0), (.slice none 0 0)] [(0, a2), (1, x48)]).map .agg) fun x52 =>
  New (.cells #[(.slice none 0 0), (.slice none 0 0)] 39 (0, 0)) H fun x11 H =>
  Get (storeNV 2 x11 x52 H) fun H =>
  Join (fun K5 =>
  Get (lenV a0) fun x54 =>
  Get (arithV .eql .i64 x54 (.int .i64 0)) fun x55 =>
  Br x55 (
  Get (pickV (.bool true) (.bool true) undef) fun x61 =>
  Br x61 (
  Get (pickV (.bool true) (.bool true) undef) fun x68 =>
  K5 [x68] H) (
  Get (loadNV 2 x11 H) fun x63 =>
  Get (Instr.fill (fun j => some (j * 2, 2)) ((Array.range (1 * 2)).map ((#[(.slice none 0 0), (.slice none 0 0)] : Array Value)[· % 2]!)) [(0, x63)]) fun cs => NewSl cs 39 1 H fun x64 H =>
  CallsH Tryz.prog 18 #[x64, a3] H fun x66 H =>
  Get (unV .not x66) fun x67 =>
  Get (pickV (.bool false) (.bool true) x67) fun x68_1 =>
  K5 [x68_1] H)) (
  CallsH Tryz.prog 18 #[a0, a1] H fun x59 H =>
  Get (unV .not x59) fun x60 =>
  Get (pickV (.bool false) (.bool true) x60) fun x61_1 =>
  Br x61_1 (
  Get (pickV (.bool true) (.bool true) undef) fun x68_2 =>
  K5 [x68_2] H) (
  Get (loadNV 2 x11 H) fun x63_1 =>
  Get (Instr.fill (fun j => some (j * 2, 2)) ((Array.range (1 * 2)).map ((#[(.slice none 0 0), (.slice none 0 0)] : Array Value)[· % 2]!)) [(0, x63_1)]) fun cs => NewSl cs 39 1 H fun x64_1 H =>
  CallsH Tryz.prog 18 #[x64_1, a3] H fun x66_1 H =>
  Get (unV .not x66_1) fun x67_1 =>
  Get (pickV (.bool false) (.bool true) x67_1) fun x68_3 =>
  K5 [x68_3] H))) fun vs6 H =>
  Br (nth vs6 0) (
  R (.bool true) H) (
  Get (loadNV 2 x11 H) fun x71 =>
  Get (Instr.fill (fun j => some (j * 2, 2)) ((Array.range (1 * 2)).map ((#[(.slice none 0 0), (.slice none 0 0)] : Array Value)[· % 2]!)) [(0, x71)]) fun cs => NewSl cs 39 1 H fun x72 H =>
  CallsH Tryz.prog 10 #[a3, x72] H fun x73 H =>
  Get (extractV x73 0) fun x74 =>
  Get (extractV x73 1) fun x75 =>
  CallsH Tryz.prog 11 #[x74, a3] H fun x79 H =>
  Get (extractV x79 0) fun x80 =>
  Get (extractV x79 1) fun x81 =>
  Join (fun K7 =>
  Get (unV .not x49) fun x83 =>
  Br x83 (
  Get (pickV (.bool true) (.bool true) undef) fun x87 =>
  Br x87 (
  Get (pickV (.bool true) (.bool true) undef) fun x91 =>
  Br x91 (
  Get (pickV (.bool true) (.bool true) undef) fun x96 =>
  K7 [x96] H) (
  Get (lenV x80) fun x94 =>
  Get (arithV .neq .i64 x94 (.int .i64 1)) fun x95 =>
  Get (pickV (.bool false) (.bool true) x95) fun x96_1 =>
  K7 [x96_1] H)) (
  Get (arithV .neq .i64 x81 (.int .i64 1)) fun x90 =>
  Get (pickV (.bool false) (.bool true) x90) fun x91_1 =>
  Br x91_1 (
  Get (pickV (.bool true) (.bool true) undef) fun x96_2 =>
  K7 [x96_2] H) (
  Get (lenV x80) fun x94_1 =>
  Get (arithV .neq .i64 x94_1 (.int .i64 1)) fun x95_1 =>
  Get (pickV (.bool false) (.bool true) x95_1) fun x96_3 =>
  K7 [x96_3] H))) (
  Get (unV .not x75) fun x86 =>
  Get (pickV (.bool false) (.bool true) x86) fun x87_1 =>
  Br x87_1 (
  Get (pickV (.bool true) (.bool true) undef) fun x91_2 =>
  Br x91_2 (
  Get (pickV (.bool true) (.bool true) undef) fun x96_4 =>
  K7 [x96_4] H) (
  Get (lenV x80) fun x94_2 =>
  Get (arithV .neq .i64 x94_2 (.int .i64 1)) fun x95_2 =>
  Get (pickV (.bool false) (.bool true) x95_2) fun x96_5 =>
  K7 [x96_5] H)) (
  Get (arithV .neq .i64 x81 (.int .i64 1)) fun x90_1 =>
  Get (pickV (.bool false) (.bool true) x90_1) fun x91_3 =>
  Br x91_3 (
  Get (pickV (.bool true) (.bool true) undef) fun x96_6 =>
  K7 [x96_6] H) (
  Get (lenV x80) fun x94_3 =>
  Get (arithV .neq .i64 x94_3 (.int .i64 1)) fun x95_3 =>
  Get (pickV (.bool false) (.bool true) x95_3) fun x96_7 =>
  K7 [x96_7] H)))) fun vs8 H =>
  Br (nth vs8 0) (
  R (.bool false) H) (
  Get (elemAddrV 2 x80 (.int .i64 0)) fun x99 =>
  Get (fieldAddrV 1 x99) fun x100 =>
  Get (load1V x100 H) fun x101 =>
  CallsH Tryz.prog 11 #[x101, a1] H fun x103 H =>
  Get (extractV x103 0) fun x104 =>
  Get (extractV x103 1) fun x105 =>
  Join (fun K9 =>
  Get (arithV .eql .i64 x105 (.int .i64 1)) fun x107 =>
  Br x107 (
  CallsH Tryz.prog 20 #[a0] H fun x111 H =>
  CallsH Tryz.prog 15 #[x104, x111] H fun x112 H =>
  Get (pickV (.bool true) x112 (.bool false)) fun x113 =>
  K9 [x113] H) (
  Get (pickV (.bool false) undef (.bool false)) fun x113_1 =>
  K9 [x113_1] H)) fun vs10 H =>
  R (nth vs10 0) H))))
def p6 : Plan := .seq (.leaf []) (.seq (.join [35] (.leaf []) (.cond (.seq (.leaf []) (.leaf [])) (.leaf []))) (.seq (.join [43] (.leaf []) (.cond (.seq (.leaf []) (.leaf [])) (.leaf []))) (.seq (.leaf []) (.seq (.leaf []) (.seq (.join [68] (.leaf []) (.cond (.seq (.leaf []) (.leaf [])) (.leaf []))) (.seq (.leaf []) (.seq (.leaf []) (.seq (.join [96] (.leaf []) (.cond (.seq (.leaf []) (.leaf [])) (.leaf []))) (.seq (.leaf []) (.join [8] (.leaf []) (.leaf [])))))))))))
theorem s6 {a0 a1 a2 a3 : Value} {H : Heap} {R : Value → Heap → Prop} (h : c6 a0 a1 a2 a3 H R) : CallsH Tryz.prog 6 #[a0, a1, a2, a3] H R :=
  callsH_of_eq p6 (fn := Tryz.f6) (c := Tryz.f6.body.getD .skip) (args := [a0, a1, a2, a3]) Tryz.func6 (by kernel_rfl) mixed (by kernel_rfl) (by kernel_rfl) (by kernel_rfl) h

end Go.Cps

/-
  FnCut, apart from any world.
  Conditions: few parts, short.
-/
namespace Go.Cps
open Go Go.Proofs

theorem close_bytes {bd : List UInt8} {H : Heap} (hl : bd.length < 2 ^ 40) : CallsH Tryz.prog 19 #[strVal bd] H fun x H' => IsBytes H' x (nldOf bd ++ [45, 45, 13, 10]) ∧ Frm [] H H' := by
  apply s19
  have e1 : strV .add (.string ⟨#[13, 10, 45, 45]⟩) (strVal bd) = some (strVal (nldOf bd)) := strV_add (a := [13, 10, 45, 45]) (by simp; omega)
  have e2 : strV .add (strVal (nldOf bd)) (.string ⟨#[45, 45, 13, 10]⟩) = some (strVal (nldOf bd ++ [45, 45, 13, 10])) := strV_add (b := [45, 45, 13, 10]) (by simp [nldOf]; omega)
  simp only [c19, e1, e2, Get_some]
  refine toBytes_of fun c H1 hc hr f1 z1 => ⟨?_, f1⟩
  have := hr.bytes (o := 0) (c := c) (n := (nldOf bd ++ [45, 45, 13, 10]).length) (by simp) hc
  rwa [List.drop_zero, List.take_length] at this

theorem tailT_snoc (bd : List UInt8) (p : PartIn) : ∀ ps : List PartIn, tailT bd none (ps ++ [p]) = tailT bd (some (p.1, [])) ps ++ p.2 ++ (nldOf bd ++ [45, 45, 13, 10])
  | [] => by simp [tailT, partIn]
  | q :: ps => by simp [tailT, tailT_snoc bd p ps]
theorem tailT_cut (bd : List UInt8) (p : PartIn) (b : List UInt8) : ∀ ps : List PartIn, tailT bd (some (p.1, b)) ps = tailT bd (some (p.1, [])) ps ++ b
  | [] => by simp [tailT, partIn]
  | q :: ps => by simp [tailT, tailT_cut bd p b ps]
theorem wholeT_snoc (bd : List UInt8) (ps : List PartIn) (p : PartIn) : wholeT bd none (ps ++ [p]) = wholeT bd (some (p.1, [])) ps ++ p.2 ++ (nldOf bd ++ [45, 45, 13, 10]) := by
  simp [wholeT, tailT_snoc]
theorem wholeT_cut (bd : List UInt8) (ps : List PartIn) (p : PartIn) (b : List UInt8) : wholeT bd (some (p.1, b)) ps = wholeT bd (some (p.1, [])) ps ++ b := by
  simp [wholeT, tailT_cut bd p b]

theorem Nowhere.take {v p : List UInt8} (h : Nowhere v p) (k : Nat) : Nowhere (v.take k) p := by
  intro i hi he
  rw [List.length_take] at hi
  refine h i (by omega) ?_
  rw [List.drop_take, List.take_take, Nat.min_eq_left (by omega)] at he
  exact he
theorem GoodIn.take {bd : List UInt8} {p : PartIn} (h : GoodIn bd p) (k : Nat) : GoodIn bd (p.1, p.2.take k) where
  lines := h.lines
  few := h.few
  nw := h.nw.take k
  dash := by
    have h1 := h.dash
    rw [← Bool.not_eq_true] at h1 ⊢
    intro h2
    apply h1
    rw [List.isPrefixOf_iff_prefix] at h2 ⊢
    exact h2.trans (List.take_prefix _ _)
  small := by have := h.small; simp only [List.length_take]; omega

theorem cell_frm {H H' : Heap} {a : Addr} {v : Value} (h : cellH H a = some v) (f : Frm [] H H') : cellH H' a = some v := by
  unfold cellH at h ⊢
  split at h
  · rename_i c t fz hb
    rw [f.get hb (by simp)]
    exact h
  · cases h

theorem cut_ok {B : Nat} {ea ua : Addr} {v : Value} {bd : List UInt8} {l : List PartL} {k : Int} {H : Heap} (hv : PartsV [] H v l) (hE : Errs B ea ua H) (hB : B ≤ H.size) (hbl : bd.length < 2 ^ 38) (hs : (l.map bulkP).sum ≤ 2 ^ 21) :
    CallsH Tryz.prog 5 #[v, strVal bd, .int .i64 k] H fun x H' => x = .bool true ∧ Frm [] H H' := by
  obtain ⟨hn, hsm⟩ := bulk_small hs
  apply s5
  unfold c5
  refine ⟨fun vs H' => ∃ b : Bool, vs = [.bool b] ∧ Frm [] H H', ?_, ?_⟩
  · refine (fits3_ok hv (by omega) (fun p hp => ⟨by have := (hsm p hp).2.1; omega, fun q hq => by have := ((hsm p hp).2.2 q hq).2.1; omega⟩)).mono ?_
    rintro x H1 ⟨⟨r, rfl⟩, f1⟩
    simp only [Fld_ptr, add_mk, Nat.zero_add, List.getElem?_toArray, List.getElem?_cons_succ, List.getElem?_cons_zero, Get_some, Br_true, Br_false, nth_zero, nth_one, nth_two, extractV_tuple, fieldAddrV_ptr, nilV_ptr, load1V_ptr, pickV_bool, unV_not, lenV_slice, capV_slice]
    refine Br_intro (fun _ => ⟨_, rfl, f1⟩) (fun _ => ?_)
    simp only [Fld_ptr, add_mk, Nat.zero_add, List.getElem?_toArray, List.getElem?_cons_succ, List.getElem?_cons_zero, Get_some, Br_true, Br_false, nth_zero, nth_one, nth_two, extractV_tuple, fieldAddrV_ptr, nilV_ptr, load1V_ptr, pickV_bool, unV_not, lenV_slice, capV_slice, arithV_add, arithV_sub, arithV_eql, arithV_neq, arithV_lss, arithV_leq, arithV_gtr, arithV_geq, intConvV_int, lenStr_of]
    exact ⟨_, rfl, f1⟩
  rintro _ H1 ⟨b, rfl, f1⟩
  simp only [Fld_ptr, add_mk, Nat.zero_add, List.getElem?_toArray, List.getElem?_cons_succ, List.getElem?_cons_zero, Get_some, Br_true, Br_false, nth_zero, nth_one, nth_two, extractV_tuple, fieldAddrV_ptr, nilV_ptr, load1V_ptr, pickV_bool, unV_not, lenV_slice, capV_slice]
  refine Br_intro (fun _ => ⟨trivial, f1⟩) (fun _ => ?_)
  simp only [Fld_ptr, add_mk, Nat.zero_add, List.getElem?_toArray, List.getElem?_cons_succ, List.getElem?_cons_zero, Get_some, Br_true, Br_false, nth_zero, nth_one, nth_two, extractV_tuple, fieldAddrV_ptr, nilV_ptr, load1V_ptr, pickV_bool, unV_not, lenV_slice, capV_slice, arithV_add, arithV_sub, arithV_eql, arithV_neq, arithV_lss, arithV_leq, arithV_gtr, arithV_geq, intConvV_int, lenStr_of]
  refine Br_intro (fun _ => ⟨trivial, f1⟩) (fun _ => ?_)
  simp only [hv.len, Fld_ptr, add_mk, Nat.zero_add, List.getElem?_toArray, List.getElem?_cons_succ, List.getElem?_cons_zero, Get_some, Br_true, Br_false, nth_zero, nth_one, nth_two, extractV_tuple, fieldAddrV_ptr, nilV_ptr, load1V_ptr, pickV_bool, unV_not, lenV_slice, capV_slice, arithV_add, arithV_sub, arithV_eql, arithV_neq, arithV_lss, arithV_leq, arithV_gtr, arithV_geq, intConvV_int]
  by_cases hl0 : l = []
  · subst hl0
    have e0 : IntKind.i64.wrap (((([] : List PartL).length : Nat) : Int) - 1) = -1 := by decide
    refine ⟨fun vs H' => vs = [.bool true] ∧ Frm [] H H', ?_, ?_⟩
    · have d0 : decide ((-1 : Int) < 0) = true := by decide
      simp only [e0, d0, Fld_ptr, add_mk, Nat.zero_add, List.getElem?_toArray, List.getElem?_cons_succ, List.getElem?_cons_zero, Get_some, Br_true, Br_false, nth_zero, nth_one, nth_two, extractV_tuple, fieldAddrV_ptr, nilV_ptr, load1V_ptr, pickV_bool, unV_not, lenV_slice, capV_slice, arithV_add, arithV_sub, arithV_eql, arithV_neq, arithV_lss, arithV_leq, arithV_gtr, arithV_geq, intConvV_int, if_true]
      exact ⟨trivial, f1⟩
    · rintro _ H2 ⟨rfl, f2⟩
      simp only [Fld_ptr, add_mk, Nat.zero_add, List.getElem?_toArray, List.getElem?_cons_succ, List.getElem?_cons_zero, Get_some, Br_true, Br_false, nth_zero, nth_one, nth_two, extractV_tuple, fieldAddrV_ptr, nilV_ptr, load1V_ptr, pickV_bool, unV_not, lenV_slice, capV_slice]
      exact ⟨trivial, f2⟩
  have hlp : 0 < l.length := List.length_pos_iff.2 hl0
  obtain ⟨m, hm⟩ : ∃ m, l.length = m + 1 := ⟨l.length - 1, by omega⟩
  have e0 : IntKind.i64.wrap (((l.length : Nat) : Int) - 1) = (m : Int) := by rw [wrap_i64 (by omega) (by omega)]; omega
  have d0 : decide ((m : Int) < 0) = false := by simp
  have hmem : l[m] ∈ l := List.getElem_mem (by omega)
  obtain ⟨hb1, hb2, hb3⟩ := hsm l[m] hmem
  generalize hpe : l[m]'(by omega) = p at *
  -- the body of the last part, wherever it is asked for
  obtain ⟨a, z, ha, hlast⟩ : ∃ a z, (∀ k : IntKind, elemAddrV 2 v (.int k (m : Int)) = some (.pointer (some a))) ∧ ∀ H', Frm [] H H' → cellH H' (a.add 1) = some z ∧ BytV [] H' z p.2 := by
    obtain ⟨a, vs, ha, _, _, hR, hc⟩ := hv.elem (j := m) (by omega)
    obtain ⟨y, z, rfl, hy, hz⟩ := part_shape hR
    rw [hpe] at hz
    exact ⟨a, z, ha, fun H' f => ⟨cell_frm (hc 1 (by omega)) f, hz.frm f (by simp)⟩⟩
  simp only [e0]
  refine ⟨fun vs H' => ∃ b : Bool, vs = [.bool b] ∧ (b = false → (∀ p ∈ l, GoodPart bd p) ∧ BdOk bd ∧ 0 ≤ k ∧ k ≤ p.2.length) ∧ Frm [] H H', ?_, ?_⟩
  · simp only [d0, Fld_ptr, add_mk, Nat.zero_add, List.getElem?_toArray, List.getElem?_cons_succ, List.getElem?_cons_zero, Get_some, Br_true, Br_false, nth_zero, nth_one, nth_two, extractV_tuple, fieldAddrV_ptr, nilV_ptr, load1V_ptr, pickV_bool, unV_not, lenV_slice, capV_slice, arithV_add, arithV_sub, arithV_eql, arithV_neq, arithV_lss, arithV_leq, arithV_gtr, arithV_geq, intConvV_int]
    refine (good_ok (hv.frm partR_ok f1 (by simp)) (by omega) (by omega) (fun p hp => ?_)).mono ?_
    · obtain ⟨a1, a2, a3⟩ := hsm p hp
      exact ⟨by omega, by omega, fun q hq => by
        obtain ⟨b1, b2, b3⟩ := a3 q hq
        exact ⟨by omega, by omega, fun s hs => by have := b3 s hs; omega⟩⟩
    rintro x H2 ⟨r, rfl, hr, f2⟩
    have f12 := f1.trans f2
    cases r with
    | false =>
      simp only [Fld_ptr, add_mk, Nat.zero_add, List.getElem?_toArray, List.getElem?_cons_succ, List.getElem?_cons_zero, Get_some, Br_true, Br_false, nth_zero, nth_one, nth_two, extractV_tuple, fieldAddrV_ptr, nilV_ptr, load1V_ptr, pickV_bool, unV_not, lenV_slice, capV_slice, Bool.not_false, Bool.false_eq_true, if_false, if_true]
      exact ⟨true, rfl, fun h => (by cases h), f12⟩
    | true =>
      simp only [Fld_ptr, add_mk, Nat.zero_add, List.getElem?_toArray, List.getElem?_cons_succ, List.getElem?_cons_zero, Get_some, Br_true, Br_false, nth_zero, nth_one, nth_two, extractV_tuple, fieldAddrV_ptr, nilV_ptr, load1V_ptr, pickV_bool, unV_not, lenV_slice, capV_slice, arithV_add, arithV_sub, arithV_eql, arithV_neq, arithV_lss, arithV_leq, arithV_gtr, arithV_geq, intConvV_int, Bool.not_true, Bool.false_eq_true, if_false]
      by_cases hk0 : k < 0
      · simp only [decide_eq_true hk0, Fld_ptr, add_mk, Nat.zero_add, List.getElem?_toArray, List.getElem?_cons_succ, List.getElem?_cons_zero, Get_some, Br_true, Br_false, nth_zero, nth_one, nth_two, extractV_tuple, fieldAddrV_ptr, nilV_ptr, load1V_ptr, pickV_bool, unV_not, lenV_slice, capV_slice, if_true]
        exact ⟨true, rfl, fun h => (by cases h), f12⟩
      · obtain ⟨hc, hz⟩ := hlast H2 f12
        simp only [decide_eq_false hk0, Fld_ptr, add_mk, Nat.zero_add, List.getElem?_toArray, List.getElem?_cons_succ, List.getElem?_cons_zero, Get_some, Br_true, Br_false, nth_zero, nth_one, nth_two, extractV_tuple, fieldAddrV_ptr, nilV_ptr, load1V_ptr, pickV_bool, unV_not, lenV_slice, capV_slice, ha, hc, hz.1.len, arithV_add, arithV_sub, arithV_eql, arithV_neq, arithV_lss, arithV_leq, arithV_gtr, arithV_geq, intConvV_int, Bool.false_eq_true, if_false]
        refine ⟨_, rfl, fun h => ?_, f12⟩
        obtain ⟨g1, g2⟩ := hr rfl
        refine ⟨g1, g2, by omega, ?_⟩
        have : ¬ k > (p.2.length : Int) := by simpa using h
        omega
  rintro _ H2 ⟨b, rfl, hgood, f2⟩
  simp only [Fld_ptr, add_mk, Nat.zero_add, List.getElem?_toArray, List.getElem?_cons_succ, List.getElem?_cons_zero, Get_some, Br_true, Br_false, nth_zero, nth_one, nth_two, extractV_tuple, fieldAddrV_ptr, nilV_ptr, load1V_ptr, pickV_bool, unV_not, lenV_slice, capV_slice]
  refine Br_intro (fun _ => ⟨trivial, f2⟩) (fun hb0 => ?_)
  obtain ⟨hg, hok, hk0, hkl⟩ := hgood hb0
  obtain ⟨kn, rfl⟩ := Int.eq_ofNat_of_zero_le hk0
  have hkn : kn ≤ p.2.length := by omega
  have hlen := hok.len
  have hpos := hok.pos
  have hwl : (wholeT bd none (l.map partInL)).length < 2 ^ 36 := by
    have := whole_len' hg
    have h2 : l.length * (10 + bd.length) ≤ 2 ^ 21 * 80 := Nat.mul_le_mul hn (by omega)
    omega
  refine (write_ok (hv.frm partR_ok f2 (by simp)) hok hwl (by omega) (fun p hp => (hg p hp).head.asc')).mono ?_
  rintro x H3 ⟨y, rfl, hx, f3⟩
  have f13 := f2.trans f3
  -- the text that is left
  have hsplit : l = l.take m ++ [p] := by
    rw [← hpe, ← List.take_succ_eq_append_getElem (by omega), List.take_of_length_le (by omega)]
  obtain ⟨ps, hps⟩ : ∃ ps, (l.take m).map partInL = ps := ⟨_, rfl⟩
  have hmapl : l.map partInL = ps ++ [partInL p] := by
    conv => lhs; rw [hsplit]
    rw [List.map_append, hps]; rfl
  have hp2 : (partInL p).2 = p.2 := rfl
  rw [hmapl, wholeT_snoc, hp2] at hx hwl
  obtain ⟨X, hX⟩ : ∃ X, wholeT bd (some ((partInL p).1, [])) ps = X := ⟨_, rfl⟩
  obtain ⟨C, hC⟩ : ∃ C, nldOf bd ++ [45, 45, 13, 10] = C := ⟨_, rfl⟩
  rw [hX, hC] at hx hwl
  have hwl' : X.length + p.2.length + C.length < 2 ^ 36 := by simpa [Nat.add_assoc] using hwl
  have hNl : (X ++ p.2 ++ C).length = X.length + p.2.length + C.length := by simp [Nat.add_assoc]
  obtain ⟨hc, hz⟩ := hlast H3 f13
  simp only [Fld_ptr, add_mk, Nat.zero_add, List.getElem?_toArray, List.getElem?_cons_succ, List.getElem?_cons_zero, Get_some, Br_true, Br_false, nth_zero, nth_one, nth_two, extractV_tuple, fieldAddrV_ptr, nilV_ptr, load1V_ptr, pickV_bool, unV_not, lenV_slice, capV_slice, hx.len, hNl, ha, hc]
  refine (close_bytes (by omega)).mono ?_
  rintro cv H4 ⟨hcv, f4⟩
  rw [hC] at hcv
  have f14 := f13.trans f4
  have hx4 := hx.frm f4 (by simp)
  obtain ⟨hc4, hz4⟩ := hlast H4 f14
  refine ⟨⟨hc4, trivial⟩, ?_⟩
  have w1 : IntKind.i64.wrap (((X.length + p.2.length + C.length : Nat) : Int) - (C.length : Int)) = ((X.length + p.2.length : Nat) : Int) := by rw [wrap_i64 (by omega) (by omega)]; omega
  have w2 : IntKind.i64.wrap (((X.length + p.2.length : Nat) : Int) - (p.2.length : Int)) = (X.length : Int) := by rw [wrap_i64 (by omega) (by omega)]; omega
  have w3 : IntKind.i64.wrap ((X.length : Int) + (kn : Int)) = ((X.length + kn : Nat) : Int) := by rw [wrap_i64 (by omega) (by omega)]; omega
  have d1 : decide (((X.length + kn : Nat) : Int) < 0) = false := by rw [decide_eq_false_iff_not]; omega
  have d2 : decide (((X.length + kn : Nat) : Int) > ((X.length + p.2.length + C.length : Nat) : Int)) = false := by rw [decide_eq_false_iff_not]; omega
  simp only [hcv.len, hz4.1.len, arithV_add, arithV_sub, arithV_eql, arithV_neq, arithV_lss, arithV_leq, arithV_gtr, arithV_geq, intConvV_int, Fld_ptr, add_mk, Nat.zero_add, List.getElem?_toArray, List.getElem?_cons_succ, List.getElem?_cons_zero, Get_some, Br_true, Br_false, nth_zero, nth_one, nth_two, extractV_tuple, fieldAddrV_ptr, nilV_ptr, load1V_ptr, pickV_bool, unV_not, lenV_slice, capV_slice, w1, w2, w3]
  refine ⟨fun vs H' => vs = [.bool false] ∧ H' = H4, ?_, ?_⟩
  · simp only [Fld_ptr, add_mk, Nat.zero_add, List.getElem?_toArray, List.getElem?_cons_succ, List.getElem?_cons_zero, Get_some, Br_true, Br_false, nth_zero, nth_one, nth_two, extractV_tuple, fieldAddrV_ptr, nilV_ptr, load1V_ptr, pickV_bool, unV_not, lenV_slice, capV_slice, arithV_add, arithV_sub, arithV_eql, arithV_neq, arithV_lss, arithV_leq, arithV_gtr, arithV_geq, intConvV_int, Bool.not_true, d1, d2, Bool.false_eq_true, if_false]
    exact ⟨trivial, trivial⟩
  rintro _ H4 ⟨rfl, rfl⟩
  obtain ⟨yc, hyc, hycb, _⟩ := hx4.upto (j := X.length + kn) (by omega) .i64
  have htake : (X ++ p.2 ++ C).take (X.length + kn) = wholeT bd (some ((partInL p).1, p.2.take kn)) ps := by
    rw [wholeT_cut, hX, List.append_assoc, List.take_length_add_append, List.take_append_of_le_length hkn]
  rw [htake] at hycb
  simp only [hyc, Fld_ptr, add_mk, Nat.zero_add, List.getElem?_toArray, List.getElem?_cons_succ, List.getElem?_cons_zero, Get_some, Br_true, Br_false, nth_zero, nth_one, nth_two, extractV_tuple, fieldAddrV_ptr, nilV_ptr, load1V_ptr, pickV_bool, unV_not, lenV_slice, capV_slice]
  have hgb : GoodBd bd := ⟨by intro h0; rw [h0] at hpos; simp at hpos, bd_no_nl hok, by omega⟩
  have hbr : BdR bd := ⟨bd_no_cr hok, by omega⟩
  have hcl : (wholeT bd (some ((partInL p).1, p.2.take kn)) ps).length < 2 ^ 39 := by
    rw [← htake, List.length_take]; omega
  have hpsl : ps.length = m := by rw [← hps, List.length_map, List.length_take]; omega
  have hpin : GoodIn bd (partInL p) := (hg p hmem).inn (by omega)
  refine (parts_ok hycb (hE.frm f14 (by simp)) (Nat.le_trans hB f14.size) hgb hbr hcl ?_ (fun q hq => ?_) (by omega)).mono ?_
  · intro q hq
    rw [← hps] at hq
    obtain ⟨p', hp', rfl⟩ := List.mem_map.1 hq
    have hm' := List.mem_of_mem_take hp'
    exact (hg p' hm').inn (by have := (hsm p' hm').1; omega)
  · cases hq
    exact hpin.take kn
  rintro x H5 ⟨u, rs, rfl, hy, f5, d, hd, hrs⟩
  have f15 := f14.trans f5
  have hres : ps.map resOf = (l.take m).map canonPart := by
    rw [← hps, List.map_map]
    exact List.map_congr_left fun p' hp' => (hg p' (List.mem_of_mem_take hp')).res
  have hresp : sortHs (hdrOf (partInL p).1) = (canonPart p).1 := congrArg Prod.fst (hg p hmem).res
  rw [hres, hresp] at hrs
  have hdp : d <+: p.2.take kn := hd
  have hrsl : rs.length = m + 1 := by rw [hrs]; simp; omega
  have hw2 : ((if (some ((partInL p).1, p.2.take kn) : Option PartIn).isSome = true then 2 else 1 : Int)) = 2 := rfl
  simp only [Fld_ptr, add_mk, Nat.zero_add, List.getElem?_toArray, List.getElem?_cons_succ, List.getElem?_cons_zero, Get_some, Br_true, Br_false, nth_zero, nth_one, nth_two, extractV_tuple, fieldAddrV_ptr, nilV_ptr, load1V_ptr, pickV_bool, unV_not, lenV_slice, capV_slice, hw2]
  refine (canonParts_ok (hv.frm partR_ok f15 (by simp)) (by omega) (fun p hp => ⟨by have := (hsm p hp).2.1; omega, fun q hq => by have := ((hsm p hp).2.2 q hq).1; omega⟩) (fun p hp => (hg p hp).head.canon)).mono ?_
  rintro w H6 ⟨hw6, f6⟩
  have f16 := f15.trans f6
  have hy6 := hy.frm partR_ok f6 (by simp)
  have hn2 : ((2 : Int) == 2) = true := by decide
  have hll : (((m + 1 : Nat) : Int) == ((m + 1 : Nat) : Int)) = true := by simp
  obtain ⟨y1, hy1, hy1s⟩ := hy6.upto (i := m) (by omega) .i64
  obtain ⟨w1', hw1, hw1s⟩ := hw6.upto (i := m) (by simp; omega) .i64
  have ht1 : rs.take m = (l.take m).map canonPart := by
    rw [hrs, List.take_append_of_le_length (by simp; omega), List.take_of_length_le (by simp; omega)]
  have ht2 : (l.map canonPart).take m = (l.take m).map canonPart := by rw [List.map_take]
  rw [ht1] at hy1s
  rw [ht2] at hw1s
  have hcp : ∀ q ∈ l, (canonPart q).1.length < 2 ^ 60 ∧ ∀ r ∈ (canonPart q).1, r.2.length < 2 ^ 60 := by
    intro q hq
    obtain ⟨a1, a2, a3⟩ := hsm q hq
    have hpm := sortHs_perm (q.1.map canonP)
    refine ⟨?_, fun r hr => ?_⟩
    · show (sortHs (q.1.map canonP)).length < _
      rw [hpm.length_eq, List.length_map]; omega
    · have hr' : r ∈ q.1.map canonP := hpm.mem_iff.1 hr
      obtain ⟨q', hq', rfl⟩ := List.mem_map.1 hr'
      have := (a3 q' hq').2.1
      show q'.2.length < _
      omega
  simp only [hy6.len, hrsl, hv.len, hm, Fld_ptr, add_mk, Nat.zero_add, List.getElem?_toArray, List.getElem?_cons_succ, List.getElem?_cons_zero, Get_some, Br_true, Br_false, nth_zero, nth_one, nth_two, extractV_tuple, fieldAddrV_ptr, nilV_ptr, load1V_ptr, pickV_bool, unV_not, lenV_slice, capV_slice, arithV_add, arithV_sub, arithV_eql, arithV_neq, arithV_lss, arithV_leq, arithV_gtr, arithV_geq, intConvV_int]
  refine ⟨fun vs H' => vs = [.bool false] ∧ Frm [] H6 H', ?_, ?_⟩
  · simp only [bne, hn2, hll, Bool.not_true, Fld_ptr, add_mk, Nat.zero_add, List.getElem?_toArray, List.getElem?_cons_succ, List.getElem?_cons_zero, Get_some, Br_true, Br_false, nth_zero, nth_one, nth_two, extractV_tuple, fieldAddrV_ptr, nilV_ptr, load1V_ptr, pickV_bool, unV_not, lenV_slice, capV_slice, arithV_add, arithV_sub, arithV_eql, arithV_neq, arithV_lss, arithV_leq, arithV_gtr, arithV_geq, intConvV_int, Bool.false_eq_true, if_false, hy1, hw1]
    refine (same_ok hy1s hw1s (by simp; omega) ?_).mono ?_
    · intro q hq
      obtain ⟨q', hq', rfl⟩ := List.mem_map.1 hq
      exact hcp q' (List.mem_of_mem_take hq')
    rintro x H7 ⟨rfl, f7⟩
    simp only [decide_true, Fld_ptr, add_mk, Nat.zero_add, List.getElem?_toArray, List.getElem?_cons_succ, List.getElem?_cons_zero, Get_some, Br_true, Br_false, nth_zero, nth_one, nth_two, extractV_tuple, fieldAddrV_ptr, nilV_ptr, load1V_ptr, pickV_bool, unV_not, lenV_slice, capV_slice, Bool.not_true, Bool.false_eq_true, if_false]
    exact ⟨trivial, f7⟩
  rintro _ H7 ⟨rfl, f7⟩
  have f17 := f16.trans f7
  simp only [Fld_ptr, add_mk, Nat.zero_add, List.getElem?_toArray, List.getElem?_cons_succ, List.getElem?_cons_zero, Get_some, Br_true, Br_false, nth_zero, nth_one, nth_two, extractV_tuple, fieldAddrV_ptr, nilV_ptr, load1V_ptr, pickV_bool, unV_not, lenV_slice, capV_slice]
  obtain ⟨a1, vs1, ha1, _, _, hR1, hc1⟩ := (hy6.frm partR_ok f7 (by simp)).elem (j := m) (by omega)
  obtain ⟨a2, vs2, ha2, _, _, hR2, hc2⟩ := (hw6.frm partR_ok f7 (by simp)).elem (j := m) (by simp; omega)
  have hrm : rs[m]'(by omega) = ((canonPart p).1, d) := by
    have : rs[m]? = some ((canonPart p).1, d) := by
      have h0 : m - ((l.take m).map canonPart).length = 0 := by rw [List.length_map, List.length_take]; omega
      rw [hrs, List.getElem?_append_right (by rw [List.length_map, List.length_take]; omega), h0]
      rfl
    rw [List.getElem?_eq_getElem (by omega)] at this
    exact Option.some.inj this
  have hwm : (l.map canonPart)[m]'(by simp; omega) = canonPart p := by rw [List.getElem_map, hpe]
  rw [hrm] at hR1
  rw [hwm] at hR2
  obtain ⟨h1, z1, rfl, hh1, hz1⟩ := part_shape hR1
  obtain ⟨h2, z2, rfl, hh2, hz2⟩ := part_shape hR2
  have c10 : cellH H7 (a1.add 0) = some h1 := hc1 0 (by omega)
  have c11 : cellH H7 (a1.add 1) = some z1 := hc1 1 (by omega)
  have c20 : cellH H7 (a2.add 0) = some h2 := hc2 0 (by omega)
  refine ⟨fun vs H' => vs = [.bool true] ∧ Frm [] H7 H', ?_, ?_⟩
  · simp only [ha1, ha2, Fld_ptr, add_mk, Nat.zero_add, List.getElem?_toArray, List.getElem?_cons_succ, List.getElem?_cons_zero, Get_some, Br_true, Br_false, nth_zero, nth_one, nth_two, extractV_tuple, fieldAddrV_ptr, nilV_ptr, load1V_ptr, pickV_bool, unV_not, lenV_slice, capV_slice, c10, c20]
    refine (sameHead_ok hh1 hh2 (hcp p hmem).1 (hcp p hmem).2).mono ?_
    rintro x H8 ⟨rfl, f8⟩
    have c11' := cell_frm c11 f8
    have hz18 := hz1.frm f8 (by simp)
    obtain ⟨hc8, hz8⟩ := hlast H8 (f17.trans f8)
    have hdl : d.length ≤ kn := by have := hdp.length_le; rw [List.length_take] at this; omega
    have d3 : decide ((d.length : Int) ≤ (kn : Int)) = true := by rw [decide_eq_true_eq]; omega
    obtain ⟨zc, hzc, hzcb, _⟩ := hz8.1.upto (j := d.length) (by omega) .i64
    have hdeq : p.2.take d.length = d := by
      have h1 := List.prefix_iff_eq_take.1 (hdp.trans (List.take_prefix kn p.2))
      exact h1.symm
    rw [hdeq] at hzcb
    have hst : ∀ (u : List UInt8), Value.string ⟨u.toArray⟩ = strVal u := fun _ => rfl
    simp only [decide_true, Fld_ptr, add_mk, Nat.zero_add, List.getElem?_toArray, List.getElem?_cons_succ, List.getElem?_cons_zero, Get_some, Br_true, Br_false, nth_zero, nth_one, nth_two, extractV_tuple, fieldAddrV_ptr, nilV_ptr, load1V_ptr, pickV_bool, unV_not, lenV_slice, capV_slice, arithV_add, arithV_sub, arithV_eql, arithV_neq, arithV_lss, arithV_leq, arithV_gtr, arithV_geq, intConvV_int, c11', hz18.1.len, d3, if_true, ha, hc8, hz18.1.str, hzc, hzcb.str, hst, strV_eql', ha1]
    exact ⟨trivial, f8⟩
  · rintro _ H8 ⟨rfl, f8⟩
    exact ⟨rfl, f17.trans f8⟩
end Go.Cps
