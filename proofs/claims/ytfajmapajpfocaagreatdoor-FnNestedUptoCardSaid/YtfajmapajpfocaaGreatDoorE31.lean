/-
  A part of the proof (its texts: GF, L81, L82): each text says below what it proves.
  Conditions: each contract's own.
-/
import Derived.Test.YtfajmapajpfocaaGreatDoorE4
import Derived.Test.YtfajmapajpfocaaGreatDoorE30
set_option linter.all false
/-
  What the bodies of some functions of the program come to, at heap level, each proved of the program itself.
  Conditions: none. Written by gen.py.
-/
namespace Go.Cps
open Go Go.Proofs
set_option maxRecDepth 100000

/-- laws.FnCut -/
def c5 (a0 a1 a2 : Value) (H : Heap) (R : Value → Heap → Prop) : Prop :=
  Join (fun K1 =>
  CallsH Tryz.prog 17 #[a0] H fun x15 H =>
  Get (unV .not x15) fun x16 =>
  Br x16 (
  Get (pickV (.bool true) (.bool true) undef) fun x21 =>
  K1 [x21] H) (
  Get (lenStrV a1) fun x19 =>
  Get (arithV .gtr .i64 x19 (.int .i64 2147483647)) fun x20 =>
  Get (pickV (.bool false) (.bool true) x20) fun x21_1 =>
  K1 [x21_1] H)) fun vs2 H =>
  Br (nth vs2 0) (
  R (.bool true) H) (
  Get (lenStrV a1) fun x23 =>
  Get (arithV .gtr .i64 x23 (.int .i64 16777216)) fun x24 =>
  Br x24 (
  R (.bool true) H) (
  Get (lenV a0) fun x26 =>
  Get (arithV .sub .i64 x26 (.int .i64 1)) fun x27 =>
  Join (fun K3 =>
  Get (arithV .lss .i64 x27 (.int .i64 0)) fun x29 =>
  Br x29 (
  Get (pickV (.bool true) (.bool true) undef) fun x35 =>
  Br x35 (
  Get (pickV (.bool true) (.bool true) undef) fun x39 =>
  Br x39 (
  Get (pickV (.bool true) (.bool true) undef) fun x49 =>
  K3 [x49] H) (
  Get (elemAddrV 2 a0 x27) fun x44 =>
  Get (fieldAddrV 1 x44) fun x45 =>
  Get (load1V x45 H) fun x46 =>
  Get (lenV x46) fun x47 =>
  Get (arithV .gtr .i64 a2 x47) fun x48 =>
  Get (pickV (.bool false) (.bool true) x48) fun x49_1 =>
  K3 [x49_1] H)) (
  Get (arithV .lss .i64 a2 (.int .i64 0)) fun x38 =>
  Get (pickV (.bool false) (.bool true) x38) fun x39_1 =>
  Br x39_1 (
  Get (pickV (.bool true) (.bool true) undef) fun x49_2 =>
  K3 [x49_2] H) (
  Get (elemAddrV 2 a0 x27) fun x44_1 =>
  Get (fieldAddrV 1 x44_1) fun x45_1 =>
  Get (load1V x45_1 H) fun x46_1 =>
  Get (lenV x46_1) fun x47_1 =>
  Get (arithV .gtr .i64 a2 x47_1) fun x48_1 =>
  Get (pickV (.bool false) (.bool true) x48_1) fun x49_3 =>
  K3 [x49_3] H))) (
  CallsH Tryz.prog 18 #[a0, a1] H fun x33 H =>
  Get (unV .not x33) fun x34 =>
  Get (pickV (.bool false) (.bool true) x34) fun x35_1 =>
  Br x35_1 (
  Get (pickV (.bool true) (.bool true) undef) fun x39_2 =>
  Br x39_2 (
  Get (pickV (.bool true) (.bool true) undef) fun x49_4 =>
  K3 [x49_4] H) (
  Get (elemAddrV 2 a0 x27) fun x44_2 =>
  Get (fieldAddrV 1 x44_2) fun x45_2 =>
  Get (load1V x45_2 H) fun x46_2 =>
  Get (lenV x46_2) fun x47_2 =>
  Get (arithV .gtr .i64 a2 x47_2) fun x48_2 =>
  Get (pickV (.bool false) (.bool true) x48_2) fun x49_5 =>
  K3 [x49_5] H)) (
  Get (arithV .lss .i64 a2 (.int .i64 0)) fun x38_1 =>
  Get (pickV (.bool false) (.bool true) x38_1) fun x39_3 =>
  Br x39_3 (
  Get (pickV (.bool true) (.bool true) undef) fun x49_6 =>
  K3 [x49_6] H) (
  Get (elemAddrV 2 a0 x27) fun x44_3 =>
  Get (fieldAddrV 1 x44_3) fun x45_3 =>
  Get (load1V x45_3 H) fun x46_3 =>
  Get (lenV x46_3) fun x47_3 =>
  Get (arithV .gtr .i64 a2 x47_3) fun x48_3 =>
  Get (pickV (.bool false) (.bool true) x48_3) fun x49_7 =>
  K3 [x49_7] H)))) fun vs4 H =>
  Br (nth vs4 0) (
  R (.bool true) H) (
  CallsH Tryz.prog 10 #[a1, a0] H fun x53 H =>
  Get (extractV x53 0) fun x54 =>
  Get (extractV x53 1) fun x55 =>
  Get (lenV x54) fun x57 =>
  Get (elemAddrV 2 a0 x27) fun x64 =>
  Get (fieldAddrV 1 x64) fun x65 =>
  Get (load1V x65 H) fun x66 =>
  CallsH Tryz.prog 19 #[a1] H fun x59 H =>
  (load1V x65 H = some x66 ∧ True) ∧
  Get (lenV x59) fun x60 =>
  Get (arithV .sub .i64 x57 x60) fun x61 =>
  Get (lenV x66) fun x67 =>
  Get (arithV .sub .i64 x61 x67) fun x68 =>
  Get (arithV .add .i64 x68 a2) fun x70 =>
  Join (fun K5 =>
  Get (unV .not x55) fun x72 =>
  Br x72 (
  Get (pickV (.bool true) (.bool true) undef) fun x76 =>
  Br x76 (
  Get (pickV (.bool true) (.bool true) undef) fun x82 =>
  K5 [x82] H) (
  Get (lenV x54) fun x80 =>
  Get (arithV .gtr .i64 x70 x80) fun x81 =>
  Get (pickV (.bool false) (.bool true) x81) fun x82_1 =>
  K5 [x82_1] H)) (
  Get (arithV .lss .i64 x70 (.int .i64 0)) fun x75 =>
  Get (pickV (.bool false) (.bool true) x75) fun x76_1 =>
  Br x76_1 (
  Get (pickV (.bool true) (.bool true) undef) fun x82_2 =>
  K5 [x82_2] H) (
  Get (lenV x54) fun x80_1 =>
  Get (arithV .gtr .i64 x70 x80_1) fun x81_1 =>
  Get (pickV (.bool false) (.bool true) x81_1) fun x82_3 =>
  K5 [x82_3] H))) fun vs6 H =>
  Br (nth vs6 0) (
  R (.bool false) H) (
  Get (sliceV 1 x54 none (some x70) none) fun x86 =>
  CallsH Tryz.prog 11 #[x86, a1] H fun x88 H =>
  Get (extractV x88 0) fun x89 =>
  Get (extractV x88 1) fun x90 =>
  CallsH Tryz.prog 20 #[a0] H fun x92 H =>
  Join (fun K7 =>
  Get (arithV .neq .i64 x90 (.int .i64 2)) fun x94 =>
  Br x94 (
  Get (pickV (.bool true) (.bool true) undef) fun x101 =>
  Br x101 (
  Get (pickV (.bool true) (.bool true) undef) fun x111 =>
  K7 [x111] H) (
  Get (sliceV 2 x89 none (some x27) none) fun x105 =>
  Get (sliceV 2 x92 none (some x27) none) fun x108 =>
  CallsH Tryz.prog 15 #[x105, x108] H fun x109 H =>
  Get (unV .not x109) fun x110 =>
  Get (pickV (.bool false) (.bool true) x110) fun x111_1 =>
  K7 [x111_1] H)) (
  Get (lenV x89) fun x97 =>
  Get (lenV a0) fun x99 =>
  Get (arithV .neq .i64 x97 x99) fun x100 =>
  Get (pickV (.bool false) (.bool true) x100) fun x101_1 =>
  Br x101_1 (
  Get (pickV (.bool true) (.bool true) undef) fun x111_2 =>
  K7 [x111_2] H) (
  Get (sliceV 2 x89 none (some x27) none) fun x105_1 =>
  Get (sliceV 2 x92 none (some x27) none) fun x108_1 =>
  CallsH Tryz.prog 15 #[x105_1, x108_1] H fun x109_1 H =>
  Get (unV .not x109_1) fun x110_1 =>
  Get (pickV (.bool false) (.bool true) x110_1) fun x111_3 =>
  K7 [x111_3] H))) fun vs8 H =>
  Br (nth vs8 0) (
  R (.bool false) H) (
  Join (fun K9 =>
  Get (elemAddrV 2 x89 x27) fun x114 =>
  Get (fieldAddrV 0 x114) fun x115 =>
  Get (load1V x115 H) fun x116 =>
  Get (elemAddrV 2 x92 x27) fun x119 =>
  Get (fieldAddrV 0 x119) fun x120 =>
  Get (load1V x120 H) fun x121 =>
  CallsH Tryz.prog 21 #[x116, x121] H fun x122 H =>
  Br x122 (
  Get (elemAddrV 2 x89 x27) fun x126 =>
  Get (fieldAddrV 1 x126) fun x127 =>
  Get (load1V x127 H) fun x128 =>
  Get (lenV x128) fun x129 =>
  Get (arithV .leq .i64 x129 a2) fun x131 =>
  Get (pickV (.bool true) x131 (.bool false)) fun x132 =>
  Br x132 (
  Get (elemAddrV 2 x89 x27) fun x136 =>
  Get (fieldAddrV 1 x136) fun x137 =>
  Get (load1V x137 H) fun x138 =>
  Get (bytesV x138 H) fun x139 =>
  Get (elemAddrV 2 a0 x27) fun x142 =>
  Get (fieldAddrV 1 x142) fun x143 =>
  Get (load1V x143 H) fun x144 =>
  Get (elemAddrV 2 x89 x27) fun x147 =>
  Get (fieldAddrV 1 x147) fun x148 =>
  Get (load1V x148 H) fun x149 =>
  Get (lenV x149) fun x150 =>
  Get (sliceV 1 x144 none (some x150) none) fun x151 =>
  Get (bytesV x151 H) fun x152 =>
  Get (strV .eql x139 x152) fun x153 =>
  Get (pickV (.bool true) x153 (.bool false)) fun x154 =>
  K9 [x154] H) (
  Get (pickV (.bool false) undef (.bool false)) fun x154_1 =>
  K9 [x154_1] H)) (
  Get (pickV (.bool false) undef (.bool false)) fun x132_1 =>
  Br x132_1 (
  Get (elemAddrV 2 x89 x27) fun x136_1 =>
  Get (fieldAddrV 1 x136_1) fun x137_1 =>
  Get (load1V x137_1 H) fun x138_1 =>
  Get (bytesV x138_1 H) fun x139_1 =>
  Get (elemAddrV 2 a0 x27) fun x142_1 =>
  Get (fieldAddrV 1 x142_1) fun x143_1 =>
  Get (load1V x143_1 H) fun x144_1 =>
  Get (elemAddrV 2 x89 x27) fun x147_1 =>
  Get (fieldAddrV 1 x147_1) fun x148_1 =>
  Get (load1V x148_1 H) fun x149_1 =>
  Get (lenV x149_1) fun x150_1 =>
  Get (sliceV 1 x144_1 none (some x150_1) none) fun x151_1 =>
  Get (bytesV x151_1 H) fun x152_1 =>
  Get (strV .eql x139_1 x152_1) fun x153_1 =>
  Get (pickV (.bool true) x153_1 (.bool false)) fun x154_2 =>
  K9 [x154_2] H) (
  Get (pickV (.bool false) undef (.bool false)) fun x154_3 =>
  K9 [x154_3] H))) fun vs10 H =>
  R (nth vs10 0) H)))))
def p5 : Plan := .seq (.leaf []) (.seq (.join [21] (.leaf []) (.cond (.seq (.leaf []) (.leaf [])) (.leaf []))) (.seq (.seq (.leaf []) (.cond (.seq (.leaf []) (.leaf [])) (.leaf []))) (.seq (.leaf []) (.seq (.join [49] (.leaf []) (.cond (.seq (.leaf []) (.leaf [])) (.leaf []))) (.seq (.leaf []) (.seq (.leaf [0, 1, 2, 6, 7, 8, 9, 10, 3, 4, 5, 11, 12, 13, 14, 15]) (.seq (.join [82] (.leaf []) (.cond (.seq (.leaf []) (.leaf [])) (.leaf []))) (.seq (.leaf []) (.seq (.leaf []) (.seq (.join [111] (.leaf [0, 1, 2, 3, 4, 5, 6, 7, 8, 9, 10, 11, 12, 13, 14, 15, 16, 17, 18]) (.cond (.seq (.leaf []) (.leaf [])) (.leaf []))) (.join [6] (.leaf [0, 1, 2, 3, 4, 5, 6, 7, 8, 9, 10, 11, 12, 13, 14, 15, 16, 17, 18, 19, 20, 21, 22, 23, 24, 25, 26, 27, 28, 29, 30, 31, 32, 33, 34, 35, 36, 37, 38, 39, 40, 41, 42, 43]) (.leaf []))))))))))))
theorem s5 {a0 a1 a2 : Value} {H : Heap} {R : Value → Heap → Prop} (h : c5 a0 a1 a2 H R) : CallsH Tryz.prog 5 #[a0, a1, a2] H R :=
  callsH_of_eq p5 (fn := Tryz.f5) (c := Tryz.f5.body.getD .skip) (args := [a0, a1, a2]) Tryz.func5 (by kernel_rfl) mixed (by kernel_rfl) (by kernel_rfl) (by kernel_rfl) h

/-- laws.FnNested -/
def c6 (a0 a1 a2 a3 : Value) (H : Heap) (R : Value → Heap → Prop) : Prop :=
  Join (fun K1 =>
  CallsH Tryz.prog 17 #[a0] H fun x19 H =>
  Get (unV .not x19) fun x20 =>
  Br x20 (
  Get (pickV (.bool true) (.bool true) undef) fun x25 =>
  Br x25 (
  Get (pickV (.bool true) (.bool true) undef) fun x30 =>
  Br x30 (
  Get (pickV (.bool true) (.bool true) undef) fun x35 =>
  K1 [x35] H) (
  Get (lenStrV a3) fun x33 =>
  Get (arithV .gtr .i64 x33 (.int .i64 2147483647)) fun x34 =>
  Get (pickV (.bool false) (.bool true) x34) fun x35_1 =>
  K1 [x35_1] H)) (
  CallsH Tryz.prog 22 #[a2] H fun x28 H =>
  Get (unV .not x28) fun x29 =>
  Get (pickV (.bool false) (.bool true) x29) fun x30_1 =>
  Br x30_1 (
  Get (pickV (.bool true) (.bool true) undef) fun x35_2 =>
  K1 [x35_2] H) (
  Get (lenStrV a3) fun x33_1 =>
  Get (arithV .gtr .i64 x33_1 (.int .i64 2147483647)) fun x34_1 =>
  Get (pickV (.bool false) (.bool true) x34_1) fun x35_3 =>
  K1 [x35_3] H))) (
  Get (lenStrV a1) fun x23 =>
  Get (arithV .gtr .i64 x23 (.int .i64 2147483647)) fun x24 =>
  Get (pickV (.bool false) (.bool true) x24) fun x25_1 =>
  Br x25_1 (
  Get (pickV (.bool true) (.bool true) undef) fun x30_2 =>
  Br x30_2 (
  Get (pickV (.bool true) (.bool true) undef) fun x35_4 =>
  K1 [x35_4] H) (
  Get (lenStrV a3) fun x33_2 =>
  Get (arithV .gtr .i64 x33_2 (.int .i64 2147483647)) fun x34_2 =>
  Get (pickV (.bool false) (.bool true) x34_2) fun x35_5 =>
  K1 [x35_5] H)) (
  CallsH Tryz.prog 22 #[a2] H fun x28_1 H =>
  Get (unV .not x28_1) fun x29_1 =>
  Get (pickV (.bool false) (.bool true) x29_1) fun x30_3 =>
  Br x30_3 (
  Get (pickV (.bool true) (.bool true) undef) fun x35_6 =>
  K1 [x35_6] H) (
  Get (lenStrV a3) fun x33_3 =>
  Get (arithV .gtr .i64 x33_3 (.int .i64 2147483647)) fun x34_3 =>
  Get (pickV (.bool false) (.bool true) x34_3) fun x35_7 =>
  K1 [x35_7] H)))) fun vs2 H =>
  Br (nth vs2 0) (
  R (.bool true) H) (
  Join (fun K3 =>
  Get (lenStrV a1) fun x37 =>
  Get (arithV .gtr .i64 x37 (.int .i64 16777216)) fun x38 =>
  Br x38 (
  Get (pickV (.bool true) (.bool true) undef) fun x43 =>
  K3 [x43] H) (
  Get (lenStrV a3) fun x41 =>
  Get (arithV .gtr .i64 x41 (.int .i64 16777216)) fun x42 =>
  Get (pickV (.bool false) (.bool true) x42) fun x43_1 =>
  K3 [x43_1] H)) fun vs4 H =>
  Br (nth vs4 0) (
  R (.bool true) H) (
  CallsH Tryz.prog 10 #[a1, a0] H fun x47 H =>
  Get (extractV x47 0) fun x48 =>
  Get (extractV x47 1) fun x49 =>
  Get ((fillV #[(0, 1), (1, 1)] #[(.slice none 0 0), (.slice none 0 0)] [(0, a2), (1, x48)]).map .agg) fun x52 =>
  New (.cells #[(.slice none 0 0), (.slice none 0 0)] 39 (0, 0)) H fun x11 H =>
  Get (storeNV 2 x11 x52 H) fun H =>
  Join (fun K5 =>
  Get (lenV a0) fun x54 =>
  Get (arithV .eql .i64 x54 (.int .i64 0)) fun x55 =>
  Br x55 (
  Get (pickV (.bool true) (.bool true) undef) fun x61 =>
  Br x61 (
  Get (pickV (.bool true) (.bool true) undef) fun x68 =>
  K5 [x68] H) (
  Get (loadNV 2 x11 H) fun x63 =>
  Get (Instr.fill (fun j => some (j * 2, 2)) ((Array.range (1 * 2)).map ((#[(.slice none 0 0), (.slice none 0 0)] : Array Value)[· % 2]!)) [(0, x63)]) fun cs => NewSl cs 39 1 H fun x64 H =>
  CallsH Tryz.prog 18 #[x64, a3] H fun x66 H =>
  Get (unV .not x66) fun x67 =>
  Get (pickV (.bool false) (.bool true) x67) fun x68_1 =>
  K5 [x68_1] H)) (
  CallsH Tryz.prog 18 #[a0, a1] H fun x59 H =>
  Get (unV .not x59) fun x60 =>
  Get (pickV (.bool false) (.bool true) x60) fun x61_1 =>
  Br x61_1 (
  Get (pickV (.bool true) (.bool true) undef) fun x68_2 =>
  K5 [x68_2] H) (
  Get (loadNV 2 x11 H) fun x63_1 =>
  Get (Instr.fill (fun j => some (j * 2, 2)) ((Array.range (1 * 2)).map ((#[(.slice none 0 0), (.slice none 0 0)] : Array Value)[· % 2]!)) [(0, x63_1)]) fun cs => NewSl cs 39 1 H fun x64_1 H =>
  CallsH Tryz.prog 18 #[x64_1, a3] H fun x66_1 H =>
  Get (unV .not x66_1) fun x67_1 =>
  Get (pickV (.bool false) (.bool true) x67_1) fun x68_3 =>
  K5 [x68_3] H))) fun vs6 H =>
  Br (nth vs6 0) (
  R (.bool true) H) (
  Get (loadNV 2 x11 H) fun x71 =>
  Get (Instr.fill (fun j => some (j * 2, 2)) ((Array.range (1 * 2)).map ((#[(.slice none 0 0), (.slice none 0 0)] : Array Value)[· % 2]!)) [(0, x71)]) fun cs => NewSl cs 39 1 H fun x72 H =>
  CallsH Tryz.prog 10 #[a3, x72] H fun x73 H =>
  Get (extractV x73 0) fun x74 =>
  Get (extractV x73 1) fun x75 =>
  CallsH Tryz.prog 11 #[x74, a3] H fun x79 H =>
  Get (extractV x79 0) fun x80 =>
  Get (extractV x79 1) fun x81 =>
  Join (fun K7 =>
  Get (unV .not x49) fun x83 =>
  Br x83 (
  Get (pickV (.bool true) (.bool true) undef) fun x87 =>
  Br x87 (
  Get (pickV (.bool true) (.bool true) undef) fun x91 =>
  Br x91 (
  Get (pickV (.bool true) (.bool true) undef) fun x96 =>
  K7 [x96] H) (
  Get (lenV x80) fun x94 =>
  Get (arithV .neq .i64 x94 (.int .i64 1)) fun x95 =>
  Get (pickV (.bool false) (.bool true) x95) fun x96_1 =>
  K7 [x96_1] H)) (
  Get (arithV .neq .i64 x81 (.int .i64 1)) fun x90 =>
  Get (pickV (.bool false) (.bool true) x90) fun x91_1 =>
  Br x91_1 (
  Get (pickV (.bool true) (.bool true) undef) fun x96_2 =>
  K7 [x96_2] H) (
  Get (lenV x80) fun x94_1 =>
  Get (arithV .neq .i64 x94_1 (.int .i64 1)) fun x95_1 =>
  Get (pickV (.bool false) (.bool true) x95_1) fun x96_3 =>
  K7 [x96_3] H))) (
  Get (unV .not x75) fun x86 =>
  Get (pickV (.bool false) (.bool true) x86) fun x87_1 =>
  Br x87_1 (
  Get (pickV (.bool true) (.bool true) undef) fun x91_2 =>
  Br x91_2 (
  Get (pickV (.bool true) (.bool true) undef) fun x96_4 =>
  K7 [x96_4] H) (
  Get (lenV x80) fun x94_2 =>
  Get (arithV .neq .i64 x94_2 (.int .i64 1)) fun x95_2 =>
  Get (pickV (.bool false) (.bool true) x95_2) fun x96_5 =>
  K7 [x96_5] H)) (
  Get (arithV .neq .i64 x81 (.int .i64 1)) fun x90_1 =>
  Get (pickV (.bool false) (.bool true) x90_1) fun x91_3 =>
  Br x91_3 (
  Get (pickV (.bool true) (.bool true) undef) fun x96_6 =>
  K7 [x96_6] H) (
  Get (lenV x80) fun x94_3 =>
  Get (arithV .neq .i64 x94_3 (.int .i64 1)) fun x95_3 =>
  Get (pickV (.bool false) (.bool true) x95_3) fun x96_7 =>
  K7 [x96_7] H)))) fun vs8 H =>
  Br (nth vs8 0) (
  R (.bool false) H) (
  Get (elemAddrV 2 x80 (.int .i64 0)) fun x99 =>
  Get (fieldAddrV 1 x99) fun x100 =>
  Get (load1V x100 H) fun x101 =>
  CallsH Tryz.prog 11 #[x101, a1] H fun x103 H =>
  Get (extractV x103 0) fun x104 =>
  Get (extractV x103 1) fun x105 =>
  Join (fun K9 =>
  Get (arithV .eql .i64 x105 (.int .i64 1)) fun x107 =>
  Br x107 (
  CallsH Tryz.prog 20 #[a0] H fun x111 H =>
  CallsH Tryz.prog 15 #[x104, x111] H fun x112 H =>
  Get (pickV (.bool true) x112 (.bool false)) fun x113 =>
  K9 [x113] H) (
  Get (pickV (.bool false) undef (.bool false)) fun x113_1 =>
  K9 [x113_1] H)) fun vs10 H =>
  R (nth vs10 0) H))))
def p6 : Plan := .seq (.leaf []) (.seq (.join [35] (.leaf []) (.cond (.seq (.leaf []) (.leaf [])) (.leaf []))) (.seq (.join [43] (.leaf []) (.cond (.seq (.leaf []) (.leaf [])) (.leaf []))) (.seq (.leaf []) (.seq (.leaf []) (.seq (.join [68] (.leaf []) (.cond (.seq (.leaf []) (.leaf [])) (.leaf []))) (.seq (.leaf []) (.seq (.leaf []) (.seq (.join [96] (.leaf []) (.cond (.seq (.leaf []) (.leaf [])) (.leaf []))) (.seq (.leaf []) (.join [8] (.leaf []) (.leaf [])))))))))))
theorem s6 {a0 a1 a2 a3 : Value} {H : Heap} {R : Value → Heap → Prop} (h : c6 a0 a1 a2 a3 H R) : CallsH Tryz.prog 6 #[a0, a1, a2, a3] H R :=
  callsH_of_eq p6 (fn := Tryz.f6) (c := Tryz.f6.body.getD .skip) (args := [a0, a1, a2, a3]) Tryz.func6 (by kernel_rfl) mixed (by kernel_rfl) (by kernel_rfl) (by kernel_rfl) h

end Go.Cps

/-
  FnCut, apart from any world.
  Conditions: few parts, short.
-/
namespace Go.Cps
open Go Go.Proofs

theorem Nowhere.take {v p : List UInt8} (h : Nowhere v p) (k : Nat) : Nowhere (v.take k) p := by
  intro i hi he
  rw [List.length_take] at hi
  refine h i (by omega) ?_
  rw [List.drop_take, List.take_take, Nat.min_eq_left (by omega)] at he
  exact he
theorem GoodIn.take {bd : List UInt8} {p : PartIn} (h : GoodIn bd p) (k : Nat) : GoodIn bd (p.1, p.2.take k) where
  lines := h.lines
  few := h.few
  nw := h.nw.take k
  dash := by
    have h1 := h.dash
    rw [← Bool.not_eq_true] at h1 ⊢
    intro h2
    apply h1
    rw [List.isPrefixOf_iff_prefix] at h2 ⊢
    exact h2.trans (List.take_prefix _ _)
  small := by have := h.small; simp only [List.length_take]; omega

end Go.Cps

/-
  SetBoundary of any text.
  Conditions: no part has been written.
-/
namespace Go.Cps
open Go Go.Proofs

theorem decode_high (s : ByteArray) (pos : Nat) (h : pos < s.size) (ha : ¬ (s[pos]'h).toNat < 128) : 128 ≤ (Utf8.decode s pos).1 := by
  have e : s.get! (pos + 0) = s[pos]'h := by
    show s.get! pos = _
    simp [ByteArray.get!, getElem!_pos, h]
    rfl
  simp only [Utf8.decode, e]
  rw [if_neg ha]
  split
  · split
    · omega
    · decide
  · split
    · split
      · rename_i hc; simp only [Bool.and_eq_true, decide_eq_true_eq] at hc; omega
      · decide
    · split
      · split
        · rename_i hc; simp only [Bool.and_eq_true, decide_eq_true_eq] at hc; omega
        · decide
      · decide
theorem next_any {s : ByteArray} {pos r : Nat} {H : Heap} {K : Value → Heap → Prop} (hr : H[r]? = some (.stringIter s pos)) (h : pos < s.size) :
    ExecV Tryz.prog (Instr.next (.pointer (some ⟨r, 0, none⟩)) true 0) H K = K (.tuple #[.bool true, .int .i64 pos, .int .i32 ((Utf8.decode s pos).1 : Nat)]) (upd H r (.stringIter s (pos + (Utf8.decode s pos).2))) := by
  apply ExecV.eq'
  intro w hw
  subst hw
  refine ⟨{ w with heap := upd w.heap r (.stringIter s (pos + (Utf8.decode s pos).2)) }, ?_, ⟨rfl, rfl, rfl⟩, rfl⟩
  simp only [Instr.next, getObj, setObj, Sem.run_bind, Sem.run, hr, Result.andThen, h, if_true]
  simp [goInt, Sem.run, hr, upd, lt_of_some hr]

theorem errNew_ok {t : List UInt8} {H : Heap} : CallsH Tryz.prog 60 #[strVal t] H fun x H' => x = .iface 138 (.pointer (some ⟨H.size, 0, none⟩)) ∧ Frm [] H H' := by
  apply s60
  have e : fillV #[(0, 1)] #[(.string ⟨#[]⟩)] [(0, strVal t)] = some #[strVal t] := by
    rw [fillV_cons rfl rfl (by simp), fillV_nil]; rfl
  simp only [c60, e, Option.map_some, Get_some, New, Value.cells]
  exact ⟨trivial, Frm.push _ _ _⟩

theorem setBoundary_any {wr : Nat} {w : Value} {bd0 bd : List UInt8} {H : Heap} (h : WrAt wr w bd0 (.pointer none) H) (hbl : bd.length < 2 ^ 40) :
    CallsH Tryz.prog 31 #[.pointer (some ⟨wr, 0, none⟩), strVal bd] H fun x H' => (x = .nilIface ∧ BdOk bd ∧ WrAt wr w bd (.pointer none) H' ∧ Frm [wr] H H') ∨ (∃ a, x = .iface 138 (.pointer (some a)) ∧ ¬ BdOk bd ∧ Frm [] H H') := by
  have hsz : (⟨bd.toArray⟩ : ByteArray).size = bd.length := bstr_size bd
  apply s31
  have hl : lenStrV (strVal bd) = some (.int .i64 bd.length) := by simp [strVal, bstr_size]
  simp only [c31, Fld_ptr, add_mk, Nat.zero_add, List.getElem?_toArray, List.getElem?_cons_succ, List.getElem?_cons_zero, Get_some, Br_true, Br_false, nth_zero, nth_one, nth_two, extractV_tuple, fieldAddrV_ptr, nilV_ptr, load1V_ptr, pickV_bool, unV_not, lenV_slice, capV_slice, arithV_add, arithV_sub, arithV_eql, arithV_neq, arithV_lss, arithV_leq, arithV_gtr, arithV_geq, intConvV_int, cellH_of h, nilV2_neq_ptr, Option.isNone_none, Bool.not_true, hl]
  have dl1 : decide ((bd.length : Int) < 1) = decide (bd.length < 1) := by rw [Bool.eq_iff_iff, decide_eq_true_eq, decide_eq_true_eq]; omega
  have dl2 : decide ((bd.length : Int) > 70) = decide (70 < bd.length) := by rw [Bool.eq_iff_iff, decide_eq_true_eq, decide_eq_true_eq]; omega
  refine ⟨fun vs H' => vs = [.bool (decide (bd.length < 1) || decide (70 < bd.length))] ∧ H' = H, ?_, ?_⟩
  · simp only [dl1, dl2]
    refine Br_intro (fun h1 => ?_) (fun h1 => ?_)
    · rw [h1]; exact ⟨rfl, trivial⟩
    · rw [h1]; exact ⟨rfl, trivial⟩
  rintro _ H ⟨rfl, rfl⟩
  simp only [Fld_ptr, add_mk, Nat.zero_add, List.getElem?_toArray, List.getElem?_cons_succ, List.getElem?_cons_zero, Get_some, Br_true, Br_false, nth_zero, nth_one, nth_two, extractV_tuple, fieldAddrV_ptr, nilV_ptr, load1V_ptr, pickV_bool, unV_not, lenV_slice, capV_slice]
  refine Br_intro (fun h1 => ?_) (fun h1 => ?_)
  · refine (errNew_ok (t := [109, 105, 109, 101, 58, 32, 105, 110, 118, 97, 108, 105, 100, 32, 98, 111, 117, 110, 100, 97, 114, 121, 32, 108, 101, 110, 103, 116, 104])).mono ?_
    rintro x H' ⟨rfl, f⟩
    refine .inr ⟨_, rfl, fun hb => ?_, f⟩
    have := hb.pos; have := hb.len
    simp only [Bool.or_eq_true, decide_eq_true_eq] at h1; omega
  simp only [Bool.or_eq_false_iff, decide_eq_false_iff_not] at h1
  have hpos : 0 < bd.length := by omega
  have hlen : bd.length ≤ 70 := by omega
  have e1 : IntKind.i64.wrap ((bd.length : Int) - 1) = (bd.length : Int) - 1 := wrap_i64 (by omega) (by omega)
  simp only [Fld_ptr, add_mk, Nat.zero_add, List.getElem?_toArray, List.getElem?_cons_succ, List.getElem?_cons_zero, Get_some, Br_true, Br_false, nth_zero, nth_one, nth_two, extractV_tuple, fieldAddrV_ptr, nilV_ptr, load1V_ptr, pickV_bool, unV_not, lenV_slice, capV_slice, arithV_add, arithV_sub, arithV_eql, arithV_neq, arithV_lss, arithV_leq, arithV_gtr, arithV_geq, intConvV_int, e1]
  rw [strVal, range_str]
  have h0 : (H.push (.stringIter ⟨bd.toArray⟩ 0))[wr]? = some (.cells #[w, strVal bd0, .pointer none] 105 (0, 0)) := push_old h
  refine ⟨fun n vs H' => ∃ pos, vs = [] ∧ n = bd.length - pos ∧ pos ≤ bd.length ∧ H'[H.size]? = some (.stringIter ⟨bd.toArray⟩ pos) ∧ H'[wr]? = some (.cells #[w, strVal bd0, .pointer none] 105 (0, 0)) ∧ Frm [] H H' ∧ ∀ j (hj : j < bd.length), j < pos → bchar bd[j] = true ∧ (bd[j] = 32 → j ≠ bd.length - 1),
    ⟨_, 0, rfl, rfl, Nat.zero_le _, push_same _ _, h0, Frm.push _ _ _, fun j _ hj => absurd hj (by omega)⟩, ?_⟩
  rintro n vs H1 ⟨pos, rfl, rfl, hp, hit, hw1, f1, hgood⟩
  by_cases hlt : pos < bd.length
  · have hbp : (⟨bd.toArray⟩ : ByteArray)[pos]'(by rw [hsz]; exact hlt) = bd[pos] := rfl
    rw [next_any hit (by rw [hsz]; exact hlt)]
    -- the rune that is read
    have hdec : ((Utf8.decode ⟨bd.toArray⟩ pos) = (bd[pos].toNat, 1)) ∨ (128 ≤ (Utf8.decode ⟨bd.toArray⟩ pos).1 ∧ ¬ bd[pos].toNat < 128) := by
      by_cases ha : bd[pos].toNat < 128
      · exact .inl (decode_ascii _ pos (by rw [hsz]; exact hlt) (by rw [hbp]; exact ha))
      · exact .inr ⟨decode_high _ pos (by rw [hsz]; exact hlt) (by rw [hbp]; exact ha), ha⟩
    generalize hcn : (((Utf8.decode ⟨bd.toArray⟩ pos).1 : Nat) : Int) = c at *
    generalize hH2 : upd H1 H.size (.stringIter ⟨bd.toArray⟩ (pos + (Utf8.decode ⟨bd.toArray⟩ pos).2)) = H2
    have f2 : Frm [H.size] H1 H2 := by rw [← hH2]; exact Frm.upd _ (by simp)
    have hit2 : H2[H.size]? = some (.stringIter ⟨bd.toArray⟩ (pos + (Utf8.decode ⟨bd.toArray⟩ pos).2)) := by rw [← hH2]; exact upd_same (lt_of_some hit)
    have hne : wr ≠ H.size := by have := lt_of_some h; omega
    have hw2 := f2.get hw1 (by simpa using hne)
    have f12 : Frm [] H H2 := ⟨Nat.le_trans f1.size f2.size, fun k hk hn => by rw [f2.same k (Nat.lt_of_lt_of_le hk f1.size) (by simp; omega), f1.same k hk hn]⟩
    -- a good rune: on; a bad one: out
    have hround : bchar bd[pos] = true → c = bd[pos].toNat → (bd[pos] = 32 → pos ≠ bd.length - 1) → ∃ m, m < bd.length - pos ∧ ∃ pos', True ∧ m = bd.length - pos' ∧ pos' ≤ bd.length ∧ H2[H.size]? = some (.stringIter ⟨bd.toArray⟩ pos') ∧ H2[wr]? = some (.cells #[w, strVal bd0, .pointer none] 105 (0, 0)) ∧ Frm [] H H2 ∧ ∀ j (hj : j < bd.length), j < pos' → bchar bd[j] = true ∧ (bd[j] = 32 → j ≠ bd.length - 1) := by
      intro hb hc hsp
      have ha := bchar_ascii hb
      rcases hdec with hd | ⟨_, hd⟩
      · rw [hd] at hit2
        refine ⟨_, by omega, pos + 1, trivial, rfl, hlt, hit2, hw2, f12, fun j hj hj2 => ?_⟩
        by_cases hjp : j = pos
        · subst hjp; exact ⟨hb, hsp⟩
        · exact hgood j hj (by omega)
      · exact absurd ha hd
    have hgc : (alnum c || punct c || c == 32) = true → bchar bd[pos] = true ∧ c = bd[pos].toNat := by
      intro hc
      rcases hdec with hd | ⟨hd, _⟩
      · have hcb : c = ((bd[pos].toNat : Nat) : Int) := by rw [← hcn, hd]
        refine ⟨?_, hcb⟩
        rw [bchar, ← hcb]
        have h32 : (c == 32) = (bd[pos] == 32) := by rw [hcb]; exact byte_beq _ 32
        rw [h32] at hc
        exact hc
      · exfalso
        simp only [alnum, punct, Bool.or_eq_true, Bool.and_eq_true, decide_eq_true_eq, beq_iff_eq] at hc
        omega
    have hbad : (alnum c || punct c) = false → (c = 32 → pos = bd.length - 1) → ¬ BdOk bd := by
      intro hc h32 hb
      have hch := hb.chars _ (List.getElem_mem hlt)
      rcases hdec with hd | ⟨_, hd⟩
      · have hcb : c = ((bd[pos].toNat : Nat) : Int) := by rw [← hcn, hd]
        rw [bchar, ← hcb, hc, Bool.false_or, beq_iff_eq] at hch
        have hp2 := h32 (by rw [hcb, hch]; rfl)
        apply hb.last
        rw [← hp2, List.getElem?_eq_getElem hlt, hch]
      · exact hd (bchar_ascii hch)
    simp only [Fld_ptr, add_mk, Nat.zero_add, List.getElem?_toArray, List.getElem?_cons_succ, List.getElem?_cons_zero, Get_some, Br_true, Br_false, nth_zero, nth_one, nth_two, extractV_tuple, fieldAddrV_ptr, nilV_ptr, load1V_ptr, pickV_bool, unV_not, lenV_slice, capV_slice, arithV_add, arithV_sub, arithV_eql, arithV_neq, arithV_lss, arithV_leq, arithV_gtr, arithV_geq, intConvV_int]
    refine ⟨fun vs H' => vs = [.bool (alnum c)] ∧ H' = H2, ?_, ?_⟩
    · refine Br_intro (fun h1 => ?_) (fun h1 => ?_) <;> simp only [Fld_ptr, add_mk, Nat.zero_add, List.getElem?_toArray, List.getElem?_cons_succ, List.getElem?_cons_zero, Get_some, Br_true, Br_false, nth_zero, nth_one, nth_two, extractV_tuple, fieldAddrV_ptr, nilV_ptr, load1V_ptr, pickV_bool, unV_not, lenV_slice, capV_slice, Bool.false_eq_true, if_false, if_true] <;> repeat' (first | refine Br_intro (fun h2 => ?_) (fun h2 => ?_) | simp only [Fld_ptr, add_mk, Nat.zero_add, List.getElem?_toArray, List.getElem?_cons_succ, List.getElem?_cons_zero, Get_some, Br_true, Br_false, nth_zero, nth_one, nth_two, extractV_tuple, fieldAddrV_ptr, nilV_ptr, load1V_ptr, pickV_bool, unV_not, lenV_slice, capV_slice, arithV_add, arithV_sub, arithV_eql, arithV_neq, arithV_lss, arithV_leq, arithV_gtr, arithV_geq, intConvV_int, Bool.false_eq_true, if_false, if_true])
      all_goals (simp only [decide_eq_true_eq, decide_eq_false_iff_not] at *; try simp only [List.cons.injEq, Value.bool.injEq, and_true]; rw [Bool.eq_iff_iff]; simp only [alnum, Bool.or_eq_true, Bool.and_eq_true, decide_eq_true_eq, true_iff, false_iff, eq_self, Bool.false_eq_true]; omega)
    · rintro _ H2 ⟨rfl, rfl⟩
      simp only [Fld_ptr, add_mk, Nat.zero_add, List.getElem?_toArray, List.getElem?_cons_succ, List.getElem?_cons_zero, Get_some, Br_true, Br_false, nth_zero, nth_one, nth_two, extractV_tuple, fieldAddrV_ptr, nilV_ptr, load1V_ptr, pickV_bool, unV_not, lenV_slice, capV_slice]
      refine Br_intro (fun h1 => ?_) (fun h1 => ?_)
      · obtain ⟨g1, g2⟩ := hgc (by rw [h1]; rfl)
        refine hround g1 g2 fun e => ?_
        rw [g2, e] at h1
        cases h1
      refine ⟨fun _ H' => H' = H2 ∧ ¬ BdOk bd, ?_, ?_⟩
      · refine ⟨fun vs H' => vs = [.bool (punct c)] ∧ H' = H2, ?_, ?_⟩
        · simp only [Fld_ptr, add_mk, Nat.zero_add, List.getElem?_toArray, List.getElem?_cons_succ, List.getElem?_cons_zero, Get_some, Br_true, Br_false, nth_zero, nth_one, nth_two, extractV_tuple, fieldAddrV_ptr, nilV_ptr, load1V_ptr, pickV_bool, unV_not, lenV_slice, capV_slice, arithV_add, arithV_sub, arithV_eql, arithV_neq, arithV_lss, arithV_leq, arithV_gtr, arithV_geq, intConvV_int]
          repeat' (first | refine Br_intro (fun h2 => ?_) (fun h2 => ?_) | simp only [Fld_ptr, add_mk, Nat.zero_add, List.getElem?_toArray, List.getElem?_cons_succ, List.getElem?_cons_zero, Get_some, Br_true, Br_false, nth_zero, nth_one, nth_two, extractV_tuple, fieldAddrV_ptr, nilV_ptr, load1V_ptr, pickV_bool, unV_not, lenV_slice, capV_slice, arithV_add, arithV_sub, arithV_eql, arithV_neq, arithV_lss, arithV_leq, arithV_gtr, arithV_geq, intConvV_int])
          all_goals (try simp only [beq_iff_eq, beq_eq_false_iff_ne] at *; try simp only [List.cons.injEq, Value.bool.injEq, and_true]; rw [Bool.eq_iff_iff]; simp only [punct, Bool.or_eq_true, beq_iff_eq]; omega)
        · rintro _ H2 ⟨rfl, rfl⟩
          simp only [Fld_ptr, add_mk, Nat.zero_add, List.getElem?_toArray, List.getElem?_cons_succ, List.getElem?_cons_zero, Get_some, Br_true, Br_false, nth_zero, nth_one, nth_two, extractV_tuple, fieldAddrV_ptr, nilV_ptr, load1V_ptr, pickV_bool, unV_not, lenV_slice, capV_slice]
          refine Br_intro (fun h2 => ?_) (fun h2 => ?_)
          · obtain ⟨g1, g2⟩ := hgc (by rw [h2, Bool.or_true]; rfl)
            refine hround g1 g2 fun e => ?_
            rw [g2, e] at h2
            cases h2
          have hap : (alnum c || punct c) = false := by rw [h1, h2]; rfl
          refine Br_intro (fun h3 => ?_) (fun h3 => ?_)
          · have hc32 : c = 32 := by simpa using h3
            refine Br_intro (fun h4 => ?_) (fun h4 => ?_)
            · obtain ⟨g1, g2⟩ := hgc (by rw [h3, Bool.or_true])
              refine hround g1 g2 fun _ e => ?_
              simp at h4
              omega
            · exact ⟨trivial, hbad hap fun _ => by simp at h4; omega⟩
          · exact ⟨trivial, hbad hap fun e => by rw [e] at h3; cases h3⟩
      · rintro _ H2 ⟨rfl, hnb⟩
        refine (errNew_ok (t := [109, 105, 109, 101, 58, 32, 105, 110, 118, 97, 108, 105, 100, 32, 98, 111, 117, 110, 100, 97, 114, 121, 32, 99, 104, 97, 114, 97, 99, 116, 101, 114])).mono ?_
        rintro x H' ⟨rfl, f⟩
        exact .inr ⟨_, rfl, hnb, f12.trans f⟩
  · rw [next_end hit (by rw [hsz]; exact hlt)]
    simp only [Fld_ptr, add_mk, Nat.zero_add, List.getElem?_toArray, List.getElem?_cons_succ, List.getElem?_cons_zero, Get_some, Br_true, Br_false, nth_zero, nth_one, nth_two, extractV_tuple, fieldAddrV_ptr, nilV_ptr, load1V_ptr, pickV_bool, unV_not, lenV_slice, capV_slice]
    refine Store_of hw1 (by simp) rfl fun H2 hb2 f2 z2 => ?_
    simp only [List.setIfInBounds_toArray, List.set_cons_succ, List.set_cons_zero] at hb2
    refine .inl ⟨trivial, ⟨fun b hb => ?_, hpos, hlen, fun e => ?_⟩, hb2, (f1.mono (by simp)).trans f2⟩
    · obtain ⟨j, hj, rfl⟩ := List.getElem_of_mem hb
      exact (hgood j hj (by omega)).1
    · rw [List.getElem?_eq_getElem (by omega)] at e
      exact (hgood (bd.length - 1) (by omega) (by omega)).2 (Option.some.inj e) rfl
end Go.Cps
