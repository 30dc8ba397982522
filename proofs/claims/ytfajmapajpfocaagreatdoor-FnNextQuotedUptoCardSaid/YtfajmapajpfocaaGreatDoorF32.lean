/-
  A part of the proof: What the bodies of some functions of the program come to, at heap level, each proved of the program itself. FnNested, apart from any world. spec.Has, spec.Without, spec.With. MIMEHeader.Get of a canonical key. What the bodies of some functions of the program come to, at heap level, each proved of the program itself.
  Conditions: each contract's own.
-/
import Derived.Test.YtfajmapajpfocaaGreatDoorF4
import Derived.Test.YtfajmapajpfocaaGreatDoorF18
import Derived.Test.YtfajmapajpfocaaGreatDoorF27
import Derived.Test.YtfajmapajpfocaaGreatDoorF31
set_option linter.all false
namespace Go.Cps
open Go Go.Proofs
set_option maxRecDepth 100000
def c5 (a0 a1 a2 : Value) (H : Heap) (R : Value → Heap → Prop) : Prop :=
  Join (fun K1 =>
  CallsH Tryz.prog 17 #[a0] H fun x15 H =>
  Get (unV .not x15) fun x16 =>
  Br x16 (
  Get (pickV (.bool true) (.bool true) undef) fun x21 =>
  K1 [x21] H) (
  Get (lenStrV a1) fun x19 =>
  Get (arithV .gtr .i64 x19 (.int .i64 2147483647)) fun x20 =>
  Get (pickV (.bool false) (.bool true) x20) fun x21_1 =>
  K1 [x21_1] H)) fun vs2 H =>
  Br (nth vs2 0) (
  R (.bool true) H) (
  Get (lenStrV a1) fun x23 =>
  Get (arithV .gtr .i64 x23 (.int .i64 16777216)) fun x24 =>
  Br x24 (
  R (.bool true) H) (
  Get (lenV a0) fun x26 =>
  Get (arithV .sub .i64 x26 (.int .i64 1)) fun x27 =>
  Join (fun K3 =>
  Get (arithV .lss .i64 x27 (.int .i64 0)) fun x29 =>
  Br x29 (
  Get (pickV (.bool true) (.bool true) undef) fun x35 =>
  Br x35 (
  Get (pickV (.bool true) (.bool true) undef) fun x39 =>
  Br x39 (
  Get (pickV (.bool true) (.bool true) undef) fun x49 =>
  K3 [x49] H) (
  Get (elemAddrV 2 a0 x27) fun x44 =>
  Get (fieldAddrV 1 x44) fun x45 =>
  Get (load1V x45 H) fun x46 =>
  Get (lenV x46) fun x47 =>
  Get (arithV .gtr .i64 a2 x47) fun x48 =>
  Get (pickV (.bool false) (.bool true) x48) fun x49_1 =>
  K3 [x49_1] H)) (
  Get (arithV .lss .i64 a2 (.int .i64 0)) fun x38 =>
  Get (pickV (.bool false) (.bool true) x38) fun x39_1 =>
  Br x39_1 (
  Get (pickV (.bool true) (.bool true) undef) fun x49_2 =>
  K3 [x49_2] H) (
  Get (elemAddrV 2 a0 x27) fun x44_1 =>
  Get (fieldAddrV 1 x44_1) fun x45_1 =>
  Get (load1V x45_1 H) fun x46_1 =>
  Get (lenV x46_1) fun x47_1 =>
  Get (arithV .gtr .i64 a2 x47_1) fun x48_1 =>
  Get (pickV (.bool false) (.bool true) x48_1) fun x49_3 =>
  K3 [x49_3] H))) (
  CallsH Tryz.prog 18 #[a0, a1] H fun x33 H =>
  Get (unV .not x33) fun x34 =>
  Get (pickV (.bool false) (.bool true) x34) fun x35_1 =>
  Br x35_1 (
  Get (pickV (.bool true) (.bool true) undef) fun x39_2 =>
  Br x39_2 (
  Get (pickV (.bool true) (.bool true) undef) fun x49_4 =>
  K3 [x49_4] H) (
  Get (elemAddrV 2 a0 x27) fun x44_2 =>
  Get (fieldAddrV 1 x44_2) fun x45_2 =>
  Get (load1V x45_2 H) fun x46_2 =>
  Get (lenV x46_2) fun x47_2 =>
  Get (arithV .gtr .i64 a2 x47_2) fun x48_2 =>
  Get (pickV (.bool false) (.bool true) x48_2) fun x49_5 =>
  K3 [x49_5] H)) (
  Get (arithV .lss .i64 a2 (.int .i64 0)) fun x38_1 =>
  Get (pickV (.bool false) (.bool true) x38_1) fun x39_3 =>
  Br x39_3 (
  Get (pickV (.bool true) (.bool true) undef) fun x49_6 =>
  K3 [x49_6] H) (
  Get (elemAddrV 2 a0 x27) fun x44_3 =>
  Get (fieldAddrV 1 x44_3) fun x45_3 =>
  Get (load1V x45_3 H) fun x46_3 =>
  Get (lenV x46_3) fun x47_3 =>
  Get (arithV .gtr .i64 a2 x47_3) fun x48_3 =>
  Get (pickV (.bool false) (.bool true) x48_3) fun x49_7 =>
  K3 [x49_7] H)))) fun vs4 H =>
  Br (nth vs4 0) (
  R (.bool true) H) (
  CallsH Tryz.prog 10 #[a1, a0] H fun x53 H =>
  Get (extractV x53 0) fun x54 =>
  Get (extractV x53 1) fun x55 =>
  Get (lenV x54) fun x57 =>
  Get (elemAddrV 2 a0 x27) fun x64 =>
  Get (fieldAddrV 1 x64) fun x65 =>
  Get (load1V x65 H) fun x66 =>
  CallsH Tryz.prog 19 #[a1] H fun x59 H =>
  (load1V x65 H = some x66 ∧ True) ∧
  Get (lenV x59) fun x60 =>
  Get (arithV .sub .i64 x57 x60) fun x61 =>
  Get (lenV x66) fun x67 =>
  Get (arithV .sub .i64 x61 x67) fun x68 =>
  Get (arithV .add .i64 x68 a2) fun x70 =>
  Join (fun K5 =>
  Get (unV .not x55) fun x72 =>
  Br x72 (
  Get (pickV (.bool true) (.bool true) undef) fun x76 =>
  Br x76 (
  Get (pickV (.bool true) (.bool true) undef) fun x82 =>
  K5 [x82] H) (
  Get (lenV x54) fun x80 =>
  Get (arithV .gtr .i64 x70 x80) fun x81 =>
  Get (pickV (.bool false) (.bool true) x81) fun x82_1 =>
  K5 [x82_1] H)) (
  Get (arithV .lss .i64 x70 (.int .i64 0)) fun x75 =>
  Get (pickV (.bool false) (.bool true) x75) fun x76_1 =>
  Br x76_1 (
  Get (pickV (.bool true) (.bool true) undef) fun x82_2 =>
  K5 [x82_2] H) (
  Get (lenV x54) fun x80_1 =>
  Get (arithV .gtr .i64 x70 x80_1) fun x81_1 =>
  Get (pickV (.bool false) (.bool true) x81_1) fun x82_3 =>
  K5 [x82_3] H))) fun vs6 H =>
  Br (nth vs6 0) (
  R (.bool false) H) (
  Get (sliceV 1 x54 none (some x70) none) fun x86 =>
  CallsH Tryz.prog 11 #[x86, a1] H fun x88 H =>
  Get (extractV x88 0) fun x89 =>
  Get (extractV x88 1) fun x90 =>
  CallsH Tryz.prog 20 #[a0] H fun x92 H =>
  Join (fun K7 =>
  Get (arithV .neq .i64 x90 (.int .i64 2)) fun x94 =>
  Br x94 (
  Get (pickV (.bool true) (.bool true) undef) fun x101 =>
  Br x101 (
  Get (pickV (.bool true) (.bool true) undef) fun x111 =>
  K7 [x111] H) (
  Get (sliceV 2 x89 none (some x27) none) fun x105 =>
  Get (sliceV 2 x92 none (some x27) none) fun x108 =>
  CallsH Tryz.prog 15 #[x105, x108] H fun x109 H =>
  Get (unV .not x109) fun x110 =>
  Get (pickV (.bool false) (.bool true) x110) fun x111_1 =>
  K7 [x111_1] H)) (
  Get (lenV x89) fun x97 =>
  Get (lenV a0) fun x99 =>
  Get (arithV .neq .i64 x97 x99) fun x100 =>
  Get (pickV (.bool false) (.bool true) x100) fun x101_1 =>
  Br x101_1 (
  Get (pickV (.bool true) (.bool true) undef) fun x111_2 =>
  K7 [x111_2] H) (
  Get (sliceV 2 x89 none (some x27) none) fun x105_1 =>
  Get (sliceV 2 x92 none (some x27) none) fun x108_1 =>
  CallsH Tryz.prog 15 #[x105_1, x108_1] H fun x109_1 H =>
  Get (unV .not x109_1) fun x110_1 =>
  Get (pickV (.bool false) (.bool true) x110_1) fun x111_3 =>
  K7 [x111_3] H))) fun vs8 H =>
  Br (nth vs8 0) (
  R (.bool false) H) (
  Join (fun K9 =>
  Get (elemAddrV 2 x89 x27) fun x114 =>
  Get (fieldAddrV 0 x114) fun x115 =>
  Get (load1V x115 H) fun x116 =>
  Get (elemAddrV 2 x92 x27) fun x119 =>
  Get (fieldAddrV 0 x119) fun x120 =>
  Get (load1V x120 H) fun x121 =>
  CallsH Tryz.prog 21 #[x116, x121] H fun x122 H =>
  Br x122 (
  Get (elemAddrV 2 x89 x27) fun x126 =>
  Get (fieldAddrV 1 x126) fun x127 =>
  Get (load1V x127 H) fun x128 =>
  Get (lenV x128) fun x129 =>
  Get (arithV .leq .i64 x129 a2) fun x131 =>
  Get (pickV (.bool true) x131 (.bool false)) fun x132 =>
  Br x132 (
  Get (elemAddrV 2 x89 x27) fun x136 =>
  Get (fieldAddrV 1 x136) fun x137 =>
  Get (load1V x137 H) fun x138 =>
  Get (bytesV x138 H) fun x139 =>
  Get (elemAddrV 2 a0 x27) fun x142 =>
  Get (fieldAddrV 1 x142) fun x143 =>
  Get (load1V x143 H) fun x144 =>
  Get (elemAddrV 2 x89 x27) fun x147 =>
  Get (fieldAddrV 1 x147) fun x148 =>
  Get (load1V x148 H) fun x149 =>
  Get (lenV x149) fun x150 =>
  Get (sliceV 1 x144 none (some x150) none) fun x151 =>
  Get (bytesV x151 H) fun x152 =>
  Get (strV .eql x139 x152) fun x153 =>
  Get (pickV (.bool true) x153 (.bool false)) fun x154 =>
  K9 [x154] H) (
  Get (pickV (.bool false) undef (.bool false)) fun x154_1 =>
  K9 [x154_1] H)) (
  Get (pickV (.bool false) undef (.bool false)) fun x132_1 =>
  Br x132_1 (
  Get (elemAddrV 2 x89 x27) fun x136_1 =>
  Get (fieldAddrV 1 x136_1) fun x137_1 =>
  Get (load1V x137_1 H) fun x138_1 =>
  Get (bytesV x138_1 H) fun x139_1 =>
  Get (elemAddrV 2 a0 x27) fun x142_1 =>
  Get (fieldAddrV 1 x142_1) fun x143_1 =>
  Get (load1V x143_1 H) fun x144_1 =>
  Get (elemAddrV 2 x89 x27) fun x147_1 =>
  Get (fieldAddrV 1 x147_1) fun x148_1 =>
  Get (load1V x148_1 H) fun x149_1 =>
  Get (lenV x149_1) fun x150_1 =>
  Get (sliceV 1 x144_1 none (some x150_1) none) fun x151_1 =>
  Get (bytesV x151_1 H) fun x152_1 =>
  Get (strV .eql x139_1 x152_1) fun x153_1 =>
  Get (pickV (.bool true) x153_1 (.bool false)) fun x154_2 =>
  K9 [x154_2] H) (
  Get (pickV (.bool false) undef (.bool false)) fun x154_3 =>
  K9 [x154_3] H))) fun vs10 H =>
  R (nth vs10 0) H)))))
def p5 : Plan := .seq (.leaf []) (.seq (.join [21] (.leaf []) (.cond (.seq (.leaf []) (.leaf [])) (.leaf []))) (.seq (.seq (.leaf []) (.cond (.seq (.leaf []) (.leaf [])) (.leaf []))) (.seq (.leaf []) (.seq (.join [49] (.leaf []) (.cond (.seq (.leaf []) (.leaf [])) (.leaf []))) (.seq (.leaf []) (.seq (.leaf [0, 1, 2, 6, 7, 8, 9, 10, 3, 4, 5, 11, 12, 13, 14, 15]) (.seq (.join [82] (.leaf []) (.cond (.seq (.leaf []) (.leaf [])) (.leaf []))) (.seq (.leaf []) (.seq (.leaf []) (.seq (.join [111] (.leaf [0, 1, 2, 3, 4, 5, 6, 7, 8, 9, 10, 11, 12, 13, 14, 15, 16, 17, 18]) (.cond (.seq (.leaf []) (.leaf [])) (.leaf []))) (.join [6] (.leaf [0, 1, 2, 3, 4, 5, 6, 7, 8, 9, 10, 11, 12, 13, 14, 15, 16, 17, 18, 19, 20, 21, 22, 23, 24, 25, 26, 27, 28, 29, 30, 31, 32, 33, 34, 35, 36, 37, 38, 39, 40, 41, 42, 43]) (.leaf []))))))))))))
theorem s5 {a0 a1 a2 : Value} {H : Heap} {R : Value → Heap → Prop} (h : c5 a0 a1 a2 H R) : CallsH Tryz.prog 5 #[a0, a1, a2] H R :=
  callsH_of_eq p5 (fn := Tryz.f5) (c := Tryz.f5.body.getD .skip) (args := [a0, a1, a2]) Tryz.func5 (by kernel_rfl) mixed (by kernel_rfl) (by kernel_rfl) (by kernel_rfl) h
def c6 (a0 a1 a2 a3 : Value) (H : Heap) (R : Value → Heap → Prop) : Prop :=
  Join (fun K1 =>
  CallsH Tryz.prog 17 #[a0] H fun x19 H =>
  Get (unV .not x19) fun x20 =>
  Br x20 (
  Get (pickV (.bool true) (.bool true) undef) fun x25 =>
  Br x25 (
  Get (pickV (.bool true) (.bool true) undef) fun x30 =>
  Br x30 (
  Get (pickV (.bool true) (.bool true) undef) fun x35 =>
  K1 [x35] H) (
  Get (lenStrV a3) fun x33 =>
  Get (arithV .gtr .i64 x33 (.int .i64 2147483647)) fun x34 =>
  Get (pickV (.bool false) (.bool true) x34) fun x35_1 =>
  K1 [x35_1] H)) (
  CallsH Tryz.prog 22 #[a2] H fun x28 H =>
  Get (unV .not x28) fun x29 =>
  Get (pickV (.bool false) (.bool true) x29) fun x30_1 =>
  Br x30_1 (
  Get (pickV (.bool true) (.bool true) undef) fun x35_2 =>
  K1 [x35_2] H) (
  Get (lenStrV a3) fun x33_1 =>
  Get (arithV .gtr .i64 x33_1 (.int .i64 2147483647)) fun x34_1 =>
  Get (pickV (.bool false) (.bool true) x34_1) fun x35_3 =>
  K1 [x35_3] H))) (
  Get (lenStrV a1) fun x23 =>
  Get (arithV .gtr .i64 x23 (.int .i64 2147483647)) fun x24 =>
  Get (pickV (.bool false) (.bool true) x24) fun x25_1 =>
  Br x25_1 (
  Get (pickV (.bool true) (.bool true) undef) fun x30_2 =>
  Br x30_2 (
  Get (pickV (.bool true) (.bool true) undef) fun x35_4 =>
  K1 [x35_4] H) (
  Get (lenStrV a3) fun x33_2 =>
  Get (arithV .gtr .i64 x33_2 (.int .i64 2147483647)) fun x34_2 =>
  Get (pickV (.bool false) (.bool true) x34_2) fun x35_5 =>
  K1 [x35_5] H)) (
  CallsH Tryz.prog 22 #[a2] H fun x28_1 H =>
  Get (unV .not x28_1) fun x29_1 =>
  Get (pickV (.bool false) (.bool true) x29_1) fun x30_3 =>
  Br x30_3 (
  Get (pickV (.bool true) (.bool true) undef) fun x35_6 =>
  K1 [x35_6] H) (
  Get (lenStrV a3) fun x33_3 =>
  Get (arithV .gtr .i64 x33_3 (.int .i64 2147483647)) fun x34_3 =>
  Get (pickV (.bool false) (.bool true) x34_3) fun x35_7 =>
  K1 [x35_7] H)))) fun vs2 H =>
  Br (nth vs2 0) (
  R (.bool true) H) (
  Join (fun K3 =>
  Get (lenStrV a1) fun x37 =>
  Get (arithV .gtr .i64 x37 (.int .i64 16777216)) fun x38 =>
  Br x38 (
  Get (pickV (.bool true) (.bool true) undef) fun x43 =>
  K3 [x43] H) (
  Get (lenStrV a3) fun x41 =>
  Get (arithV .gtr .i64 x41 (.int .i64 16777216)) fun x42 =>
  Get (pickV (.bool false) (.bool true) x42) fun x43_1 =>
  K3 [x43_1] H)) fun vs4 H =>
  Br (nth vs4 0) (
  R (.bool true) H) (
  CallsH Tryz.prog 10 #[a1, a0] H fun x47 H =>
  Get (extractV x47 0) fun x48 =>
  Get (extractV x47 1) fun x49 =>
  Get ((fillV #[(0, 1), (1, 1)] #[(.slice none 0 0), (.slice none 0 0)] [(0, a2), (1, x48)]).map .agg) fun x52 =>
  New (.cells #[(.slice none 0 0), (.slice none 0 0)] 39 (0, 0)) H fun x11 H =>
  Get (storeNV 2 x11 x52 H) fun H =>
  Join (fun K5 =>
  Get (lenV a0) fun x54 =>
  Get (arithV .eql .i64 x54 (.int .i64 0)) fun x55 =>
  Br x55 (
  Get (pickV (.bool true) (.bool true) undef) fun x61 =>
  Br x61 (
  Get (pickV (.bool true) (.bool true) undef) fun x68 =>
  K5 [x68] H) (
  Get (loadNV 2 x11 H) fun x63 =>
  Get (Instr.fill (fun j => some (j * 2, 2)) ((Array.range (1 * 2)).map ((#[(.slice none 0 0), (.slice none 0 0)] : Array Value)[· % 2]!)) [(0, x63)]) fun cs => NewSl cs 39 1 H fun x64 H =>
  CallsH Tryz.prog 18 #[x64, a3] H fun x66 H =>
  Get (unV .not x66) fun x67 =>
  Get (pickV (.bool false) (.bool true) x67) fun x68_1 =>
  K5 [x68_1] H)) (
  CallsH Tryz.prog 18 #[a0, a1] H fun x59 H =>
  Get (unV .not x59) fun x60 =>
  Get (pickV (.bool false) (.bool true) x60) fun x61_1 =>
  Br x61_1 (
  Get (pickV (.bool true) (.bool true) undef) fun x68_2 =>
  K5 [x68_2] H) (
  Get (loadNV 2 x11 H) fun x63_1 =>
  Get (Instr.fill (fun j => some (j * 2, 2)) ((Array.range (1 * 2)).map ((#[(.slice none 0 0), (.slice none 0 0)] : Array Value)[· % 2]!)) [(0, x63_1)]) fun cs => NewSl cs 39 1 H fun x64_1 H =>
  CallsH Tryz.prog 18 #[x64_1, a3] H fun x66_1 H =>
  Get (unV .not x66_1) fun x67_1 =>
  Get (pickV (.bool false) (.bool true) x67_1) fun x68_3 =>
  K5 [x68_3] H))) fun vs6 H =>
  Br (nth vs6 0) (
  R (.bool true) H) (
  Get (loadNV 2 x11 H) fun x71 =>
  Get (Instr.fill (fun j => some (j * 2, 2)) ((Array.range (1 * 2)).map ((#[(.slice none 0 0), (.slice none 0 0)] : Array Value)[· % 2]!)) [(0, x71)]) fun cs => NewSl cs 39 1 H fun x72 H =>
  CallsH Tryz.prog 10 #[a3, x72] H fun x73 H =>
  Get (extractV x73 0) fun x74 =>
  Get (extractV x73 1) fun x75 =>
  CallsH Tryz.prog 11 #[x74, a3] H fun x79 H =>
  Get (extractV x79 0) fun x80 =>
  Get (extractV x79 1) fun x81 =>
  Join (fun K7 =>
  Get (unV .not x49) fun x83 =>
  Br x83 (
  Get (pickV (.bool true) (.bool true) undef) fun x87 =>
  Br x87 (
  Get (pickV (.bool true) (.bool true) undef) fun x91 =>
  Br x91 (
  Get (pickV (.bool true) (.bool true) undef) fun x96 =>
  K7 [x96] H) (
  Get (lenV x80) fun x94 =>
  Get (arithV .neq .i64 x94 (.int .i64 1)) fun x95 =>
  Get (pickV (.bool false) (.bool true) x95) fun x96_1 =>
  K7 [x96_1] H)) (
  Get (arithV .neq .i64 x81 (.int .i64 1)) fun x90 =>
  Get (pickV (.bool false) (.bool true) x90) fun x91_1 =>
  Br x91_1 (
  Get (pickV (.bool true) (.bool true) undef) fun x96_2 =>
  K7 [x96_2] H) (
  Get (lenV x80) fun x94_1 =>
  Get (arithV .neq .i64 x94_1 (.int .i64 1)) fun x95_1 =>
  Get (pickV (.bool false) (.bool true) x95_1) fun x96_3 =>
  K7 [x96_3] H))) (
  Get (unV .not x75) fun x86 =>
  Get (pickV (.bool false) (.bool true) x86) fun x87_1 =>
  Br x87_1 (
  Get (pickV (.bool true) (.bool true) undef) fun x91_2 =>
  Br x91_2 (
  Get (pickV (.bool true) (.bool true) undef) fun x96_4 =>
  K7 [x96_4] H) (
  Get (lenV x80) fun x94_2 =>
  Get (arithV .neq .i64 x94_2 (.int .i64 1)) fun x95_2 =>
  Get (pickV (.bool false) (.bool true) x95_2) fun x96_5 =>
  K7 [x96_5] H)) (
  Get (arithV .neq .i64 x81 (.int .i64 1)) fun x90_1 =>
  Get (pickV (.bool false) (.bool true) x90_1) fun x91_3 =>
  Br x91_3 (
  Get (pickV (.bool true) (.bool true) undef) fun x96_6 =>
  K7 [x96_6] H) (
  Get (lenV x80) fun x94_3 =>
  Get (arithV .neq .i64 x94_3 (.int .i64 1)) fun x95_3 =>
  Get (pickV (.bool false) (.bool true) x95_3) fun x96_7 =>
  K7 [x96_7] H)))) fun vs8 H =>
  Br (nth vs8 0) (
  R (.bool false) H) (
  Get (elemAddrV 2 x80 (.int .i64 0)) fun x99 =>
  Get (fieldAddrV 1 x99) fun x100 =>
  Get (load1V x100 H) fun x101 =>
  CallsH Tryz.prog 11 #[x101, a1] H fun x103 H =>
  Get (extractV x103 0) fun x104 =>
  Get (extractV x103 1) fun x105 =>
  Join (fun K9 =>
  Get (arithV .eql .i64 x105 (.int .i64 1)) fun x107 =>
  Br x107 (
  CallsH Tryz.prog 20 #[a0] H fun x111 H =>
  CallsH Tryz.prog 15 #[x104, x111] H fun x112 H =>
  Get (pickV (.bool true) x112 (.bool false)) fun x113 =>
  K9 [x113] H) (
  Get (pickV (.bool false) undef (.bool false)) fun x113_1 =>
  K9 [x113_1] H)) fun vs10 H =>
  R (nth vs10 0) H))))
def p6 : Plan := .seq (.leaf []) (.seq (.join [35] (.leaf []) (.cond (.seq (.leaf []) (.leaf [])) (.leaf []))) (.seq (.join [43] (.leaf []) (.cond (.seq (.leaf []) (.leaf [])) (.leaf []))) (.seq (.leaf []) (.seq (.leaf []) (.seq (.join [68] (.leaf []) (.cond (.seq (.leaf []) (.leaf [])) (.leaf []))) (.seq (.leaf []) (.seq (.leaf []) (.seq (.join [96] (.leaf []) (.cond (.seq (.leaf []) (.leaf [])) (.leaf []))) (.seq (.leaf []) (.join [8] (.leaf []) (.leaf [])))))))))))
theorem s6 {a0 a1 a2 a3 : Value} {H : Heap} {R : Value → Heap → Prop} (h : c6 a0 a1 a2 a3 H R) : CallsH Tryz.prog 6 #[a0, a1, a2, a3] H R :=
  callsH_of_eq p6 (fn := Tryz.f6) (c := Tryz.f6.body.getD .skip) (args := [a0, a1, a2, a3]) Tryz.func6 (by kernel_rfl) mixed (by kernel_rfl) (by kernel_rfl) (by kernel_rfl) h
end Go.Cps
namespace Go.Cps
open Go Go.Proofs
theorem bytV_self {H : Heap} {v : Value} {l : List UInt8} (h : IsBytes H v l) : BytV [] H v l := by
  refine ⟨h, fun h0 b hb => ⟨by simp, ?_⟩⟩
  rcases h with ⟨b', o, c, rfl, h1, h2⟩ | ⟨a, rfl, rfl⟩
  · simp only [blk, Option.some.injEq] at hb
    subst hb
    have hp : 0 < l.length := List.length_pos_iff.2 h0
    have := h2 0 hp
    rw [List.getElem?_eq_getElem hp] at this
    have hc : cellH H ⟨b', o + 0, none⟩ = some (byteV l[0]) := this
    rcases Nat.lt_or_ge b' H.size with h | h
    · exact h
    · simp [cellH, Array.getElem?_eq_none h] at hc
  · exact absurd rfl h0
end Go.Cps
namespace Go.Cps
open Go Go.Proofs
def hasL (key : List UInt8) (hd : List Hdr) : Bool := hd.any fun p => decide (canonG true p.1 = key)
theorem has_ok {D : List Nat} {v : Value} {key : List UInt8} {hd : List Hdr} {H : Heap} (hv : HeadsV D H v hd) (hl : hd.length < 2 ^ 40) (hls : ∀ p ∈ hd, p.1.length < 2 ^ 38) :
    CallsH Tryz.prog 57 #[v, strVal key] H fun x H' => x = .bool (hasL key hd) ∧ Frm [] H H' := by
  apply s57
  simp only [c57, hv.len, Q0, Q1, Q2, Q3, Q4, Q5, Q6, Q7, Q8, Q9, Qa, Qb, Qc, Qd, Qe, Qf, Qg, Qh, Qi, Qj]
  refine ⟨fun μ vs H' => ∃ i : Nat, vs = [.int .i64 i] ∧ μ = hd.length - i ∧ i ≤ hd.length ∧ Frm [] H H' ∧ hasL key (hd.take i) = false, ⟨_, 0, rfl, rfl, Nat.zero_le _, Frm.refl _ _, rfl⟩, ?_⟩
  rintro μ vs H1 ⟨i, rfl, rfl, hi, f1, hno⟩
  simp only [Q0, Q1, Q2, Q3, Q4, Q5, Q6, Q7, Q8, Q9, Qa, Qb, Qc, Qd, Qe, Qf, Qg, Qh, Qi, Qj, Qk, Ql, Qm, Qn, Qo, Qp, Qq, Qr, Qs, dec_lt]
  refine Br_intro (fun hlt => ?_) (fun hlt => ?_)
  · have hlt' : i < hd.length := by simpa using hlt
    obtain ⟨a, vs, ha, hlo, _, hR⟩ := hv.elem2 f1 hlt'
    obtain ⟨y, rfl, hy⟩ := head_shape hR
    have hpl := hls hd[i] (List.getElem_mem hlt')
    have htk : hd.take (i + 1) = hd.take i ++ [hd[i]] := List.take_succ_eq_append_getElem hlt'
    have hmem := List.getElem_mem hlt'
    generalize hd[i] = p at *
    simp only [ha, Q6, hlo]
    refine local2' (K := fun x5 H => _) rfl hy.isOne fun H2 hb2 f2 z2 => ?_
    simp only [Q0, Q1, Q2, Q3, Q4, Q5, Q6, Q7, Q8, Q9, Qa, Qb, Qc, Qd, Qe, Qf, Qg, Qh, Qi, Qj, cellH_of hb2]
    refine (canon_ok (by omega)).mono ?_
    rintro x H3 ⟨rfl, f3⟩
    have f13 := (f1.trans f2).trans f3
    simp only [strV_eql', Q6]
    refine Br_intro (fun h1 => ?_) (fun h1 => ?_)
    · refine ⟨?_, f13⟩
      have : hasL key hd = true := List.any_eq_true.2 ⟨p, hmem, h1⟩
      rw [this]
    · simp only [inc_i64 (show i < 2 ^ 62 by omega), Qk, Ql, Qm, Qn, Qo, Qp, Qq, Qr, Qs, Q0, Q1, Q2, Q3, Q4, Q5, Q6, Q7, Q8, Q9, Qa, Qb, Qc, Qd, Qe, Qf, Qg, Qh, Qi, Qj]
      refine ⟨_, by omega, i + 1, rfl, rfl, hlt', f13, ?_⟩
      rw [htk, hasL, List.any_append]
      simp only [hasL] at hno
      rw [hno]
      simpa using h1
  · have hie : i = hd.length := by simp at hlt; omega
    subst hie
    rw [List.take_length] at hno
    exact ⟨by rw [hno], f1⟩
def encKey : List UInt8 := [67, 111, 110, 116, 101, 110, 116, 45, 84, 114, 97, 110, 115, 102, 101, 114, 45, 69, 110, 99, 111, 100, 105, 110, 103]
theorem without_ok {D : List Nat} {v : Value} {l : List PartL} {H : Heap} (hv : PartsV D H v l) (hl : l.length < 2 ^ 40) (hls : ∀ p ∈ l, p.1.length < 2 ^ 40 ∧ ∀ q ∈ p.1, q.1.length < 2 ^ 38) :
    CallsH Tryz.prog 24 #[v] H fun x H' => ∃ r : Bool, x = .bool r ∧ (r = true → ∀ p ∈ l, hasL encKey p.1 = false) ∧ Frm [] H H' := by
  apply s24
  simp only [c24, hv.len, Q0, Q1, Q2, Q3, Q4, Q5, Q6, Q7, Q8, Q9, Qa, Qb, Qc, Qd, Qe, Qf, Qg, Qh, Qi, Qj]
  refine ⟨fun μ vs H' => ∃ i : Nat, vs = [.int .i64 i] ∧ μ = l.length - i ∧ i ≤ l.length ∧ Frm [] H H' ∧ ∀ p ∈ l.take i, hasL encKey p.1 = false, ⟨_, 0, rfl, rfl, Nat.zero_le _, Frm.refl _ _, by simp⟩, ?_⟩
  rintro μ vs H1 ⟨i, rfl, rfl, hi, f1, hno⟩
  simp only [Q0, Q1, Q2, Q3, Q4, Q5, Q6, Q7, Q8, Q9, Qa, Qb, Qc, Qd, Qe, Qf, Qg, Qh, Qi, Qj, Qk, Ql, Qm, Qn, Qo, Qp, Qq, Qr, Qs, dec_lt]
  refine Br_intro (fun hlt => ?_) (fun hlt => ?_)
  · have hlt' : i < l.length := by simpa using hlt
    obtain ⟨a, vs, ha, hlo, _, hR⟩ := hv.elem2 f1 hlt'
    obtain ⟨y, z, rfl, hy, hz⟩ := part_shape hR
    obtain ⟨hl1, hl2⟩ := hls l[i] (List.getElem_mem hlt')
    have htk : l.take (i + 1) = l.take i ++ [l[i]] := List.take_succ_eq_append_getElem hlt'
    generalize l[i] = p at *
    simp only [ha, Q6, hlo]
    refine local2' (K := fun x5 H => _) hy.isOne hz.isOne fun H2 hb2 f2 z2 => ?_
    have f12 := f1.trans f2
    have hy2 : HeadsV [] H2 y p.1 := (hy.sub Qx (D' := []) (by simp)).frm Qx f12 (by simp)
    simp only [Q0, Q1, Q2, Q3, Q4, Q5, Q6, Q7, Q8, Q9, Qa, Qb, Qc, Qd, Qe, Qf, Qg, Qh, Qi, Qj, cellH_of hb2]
    refine (has_ok (key := encKey) hy2 hl1 hl2).mono ?_
    rintro x H3 ⟨rfl, f3⟩
    refine Br_intro (fun h1 => ⟨false, rfl, fun h => (by cases h), f12.trans f3⟩) (fun h1 => ?_)
    simp only [inc_i64 (show i < 2 ^ 62 by omega), Qk, Ql, Qm, Qn, Qo, Qp, Qq, Qr, Qs, Q0, Q1, Q2, Q3, Q4, Q5, Q6, Q7, Q8, Q9, Qa, Qb, Qc, Qd, Qe, Qf, Qg, Qh, Qi, Qj]
    refine ⟨_, by omega, i + 1, rfl, rfl, hlt', f12.trans f3, ?_⟩
    rw [htk]
    intro q hq
    rcases List.mem_append.1 hq with h | h
    · exact hno q h
    · rw [List.mem_singleton] at h; rw [h]; exact h1
  · have hie : i = l.length := by simp at hlt; omega
    subst hie
    rw [List.take_length] at hno
    exact ⟨true, rfl, fun _ => hno, f1⟩
def withF (k v : List UInt8) : Bool → List Hdr → List Hdr
  | put, [] => if put then [] else [(k, [v])]
  | put, p :: r => if put = false ∧ k < p.1 then (k, [v]) :: p :: withF k v true r else p :: withF k v put r
theorem put_one {D : List Nat} {H : Heap} {k : Option Nat} {out : Value} {l : List Hdr} {key value : List UInt8} {K : Value → Heap → Prop} (h : OwnS 2 90 HeadR D H k out l) (hl : l.length < 2 ^ 36) (hD : ∀ x ∈ D, x < H.size)
    (hK : ∀ k' v' H', OwnS 2 90 HeadR D H' k' v' (l ++ [(key, [value])]) → Frm k.toList H H' → (k' = k ∨ ∃ g, k' = some g ∧ H.size ≤ g) → K v' H') :
    Get (Instr.fill (fun j => some (j * 1, 1)) ((Array.range (1 * 1)).map ((#[(.string ⟨#[]⟩)] : Array Value)[· % 1]!)) [(0, strVal value)]) fun cs => NewSl cs 9 1 H fun x28 H =>
    Get ((fillV #[(0, 1), (1, 1)] #[(.string ⟨#[]⟩), (.slice none 0 0)] [(0, strVal key), (1, x28)]).map .agg) fun x29 =>
    Get (Instr.fill (fun j => some (j * 2, 2)) ((Array.range (1 * 2)).map ((#[(.string ⟨#[]⟩), (.slice none 0 0)] : Array Value)[· % 2]!)) [(0, x29)]) fun cs => NewSl cs 90 1 H fun x30 H =>
    Append 90 2 40 #[(.string ⟨#[]⟩), (.slice none 0 0)] out x30 H K := by
  rw [fill1 (v := strVal value) rfl, Q6]
  refine newSl_of fun H1 hb1 f1 z1 => ?_
  simp only [agg2 (a := strVal key) (b := .slice (some ⟨H.size, 0, none⟩) 1 1) rfl rfl trivial, Option.map_some, Q6, fill2]
  refine newSl_of fun H2 hb2 f2 z2 => ?_
  have f12 := f1.trans f2
  have hown := h.frm Qx f12 (by simp)
  have hkl : ∀ g, k = some g → g < H.size := fun g hg => (h.lt g hg).1
  have hs := strs1 (D := k.toList ++ D) (f2.get hb1 (by simp)) (fun hm => by
    rcases List.mem_append.1 hm with hm | hm
    · have : k = some H.size := by simpa using hm
      have := hkl _ this; omega
    · have := hD _ hm; omega)
  refine append_one Qx hown (xb := H1.size) (xs := [strVal key, .slice (some ⟨H.size, 0, none⟩) 1 1]) (a := (key, [value])) (fun q hq => by rw [cellH_of hb2]; simp) rfl ⟨_, rfl, hs⟩ rfl (by omega) (by omega) (fun x hx => by have := hD x hx; have := f12.size; omega) (by omega) fun k' v' H3 ho f3 hk' => ?_
  refine hK k' v' H3 ho ((f12.mono (by simp)).trans f3) ?_
  rcases hk' with e | ⟨g, e, hg⟩
  · exact .inl e
  · exact .inr ⟨g, e, by have := f12.size; omega⟩
theorem with_ok {D : List Nat} {v : Value} {key value : List UInt8} {hd : List Hdr} {H : Heap} (hv : HeadsV D H v hd) (hl : hd.length < 2 ^ 34) (hD : ∀ x ∈ D, x < H.size) :
    CallsH Tryz.prog 26 #[v, strVal key, strVal value] H fun x H' => HeadsV D H' x (withF key value false hd) ∧ Frm [] H H' := by
  apply s26
  simp only [c26, hv.len, Q0, Q1, Q2, Q3, Q4, Q5, Q6, Q7, Q8, Q9, Qa, Qb, Qc, Qd, Qe, Qf, Qg, Qh, Qi, Qj]
  refine ⟨fun μ vs H1 => ∃ (i : Nat) (put : Bool) (k : Option Nat) (out : Value) (l : List Hdr), vs = [out, .bool put, .int .i64 i] ∧ μ = hd.length - i ∧ i ≤ hd.length ∧ OwnS 2 90 HeadR D H1 k out l ∧ l ++ withF key value put (hd.drop i) = withF key value false hd ∧ l.length = i + put.toNat ∧ Frm [] H H1 ∧ ∀ g, k = some g → H.size ≤ g,
    ⟨_, 0, false, none, _, [], rfl, rfl, Nat.zero_le _, ⟨rfl, rfl⟩, by simp, by simp, Frm.refl _ _, by simp⟩, ?_⟩
  rintro μ vs H1 ⟨i, put, k, out, l, rfl, rfl, hi, hown, heq, hll, f1, hk⟩
  simp only [Q0, Q1, Q2, Q3, Q4, Q5, Q6, Q7, Q8, Q9, Qa, Qb, Qc, Qd, Qe, Qf, Qg, Qh, Qi, Qj, Qk, Ql, Qm, Qn, Qo, Qp, Qq, Qr, Qs, dec_lt]
  refine Br_intro (fun hlt => ?_) (fun hlt => ?_)
  · have hlt' : i < hd.length := by simpa using hlt
    obtain ⟨a, vs, ha, hlo, _, hR⟩ := hv.elem2 f1 hlt'
    obtain ⟨y, rfl, hy⟩ := head_shape hR
    have hdr : hd.drop i = hd[i] :: hd.drop (i + 1) := List.drop_eq_getElem_cons hlt'
    generalize hd[i] = p at *
    rw [hdr] at heq
    simp only [ha, Q6, hlo]
    refine local2' (K := fun x5 H => _) rfl hy.isOne fun H2 hb2 f2 z2 => ?_
    have f12 := f1.trans f2
    have hown2 := hown.frm Qx f2 (by simp)
    refine ⟨fun vs H3 => ∃ (put' : Bool) (k' : Option Nat) (out' : Value) (l' : List Hdr), vs = [out', .bool put'] ∧ OwnS 2 90 HeadR D H3 k' out' l' ∧ l' ++ p :: withF key value put' (hd.drop (i + 1)) = withF key value false hd ∧ l'.length = i + put'.toNat ∧ Frm k.toList H2 H3 ∧ ∀ g, k' = some g → H.size ≤ g, ?_, ?_⟩
    · refine ⟨fun vs H3 => vs = [.bool (!put && decide (key < p.1))] ∧ H3 = H2, ?_, ?_⟩
      · cases put with
        | false =>
          simp only [Q0, Q1, Q2, Q3, Q4, Q5, Q6, Q7, Q8, Q9, Qa, Qb, Qc, Qd, Qe, Qf, Qg, Qh, Qi, Qj, Bool.not_false, cellH_of hb2, strV_lss, if_true]
          exact ⟨by simp, trivial⟩
        | true =>
          simp only [Q0, Q1, Q2, Q3, Q4, Q5, Q6, Q7, Q8, Q9, Qa, Qb, Qc, Qd, Qe, Qf, Qg, Qh, Qi, Qj, Bool.not_true, Bool.false_eq_true, if_false]
          exact ⟨by simp, trivial⟩
      rintro _ H2 ⟨rfl, rfl⟩
      simp only [Q0, Q1, Q2, Q3, Q4, Q5, Q6, Q7, Q8, Q9, Qa, Qb, Qc, Qd, Qe, Qf, Qg, Qh, Qi, Qj]
      refine Br_intro (fun h1 => ?_) (fun h1 => ?_)
      · simp only [Bool.and_eq_true, Bool.not_eq_true', decide_eq_true_eq] at h1
        obtain ⟨rfl, hlt2⟩ := h1
        have hw : withF key value false (p :: hd.drop (i + 1)) = (key, [value]) :: p :: withF key value true (hd.drop (i + 1)) := by
          rw [withF, if_pos ⟨rfl, hlt2⟩]
        rw [hw] at heq
        have hll' : l.length = i := by simpa using hll
        refine put_one hown2 (by omega) (fun x hx => by have := hD x hx; have := f12.size; omega) fun k' v' H3 ho f3 hk' => ?_
        refine ⟨true, k', v', _, rfl, ho, by rw [← heq]; simp, ?_, f3, fun g hg => ?_⟩
        · simp [hll']
        · rcases hk' with e | ⟨g', e, hge⟩
          · exact hk g (by rw [← e, hg])
          · rw [hg] at e; cases e; have := f12.size; omega
      · have hw : withF key value put (p :: hd.drop (i + 1)) = p :: withF key value put (hd.drop (i + 1)) := by
          rw [withF, if_neg]
          rintro ⟨rfl, h2⟩
          simp [h2] at h1
        rw [hw] at heq
        exact ⟨put, k, out, l, rfl, hown2, heq, hll, Frm.refl _ _, hk⟩
    rintro _ H3 ⟨put', k', out', l', rfl, hown3, heq', hll', f3, hk'⟩
    have hkl : ∀ x ∈ k.toList, H.size ≤ x ∧ x < H1.size := fun x hx => ⟨hk x (by simpa using hx), (hown.lt x (by simpa using hx)).1⟩
    have hb3 := f3.get hb2 (fun hm => by have := (hkl _ hm).2; omega)
    have f13 : Frm [] H H3 := f12.up f3 (fun x hx => .inr (hkl x hx).1)
    have hp1 : put'.toNat ≤ 1 := by cases put' <;> simp
    simp only [Q0, Q1, Q2, Q3, Q4, Q5, Q6, Q7, Q8, Q9, Qa, Qb, Qc, Qd, Qe, Qf, Qg, Qh, Qi, Qj, loadNV_of (n := 2) hb3 rfl, fill2]
    refine newSl_of fun H4 hb4 f4 z4 => ?_
    have hown4 := hown3.frm Qx f4 (by simp)
    have hyk : StrsV (k'.toList ++ D) H y p.2 := by
      cases k' with
      | none => exact hy
      | some g => exact hy.new Qy (hk' g rfl)
    have f14 := f13.trans f4
    refine append_one Qx hown4 (xb := H3.size) (xs := [strVal p.1, y]) (a := p) (fun q hq => by rw [cellH_of hb4]; simp) rfl ⟨y, rfl, hyk.frm Qy f14 (by simp)⟩ rfl (by omega) (by omega) (fun x hx => by have := hD x hx; have := f14.size; omega) (by omega) fun k5 v5 H5 ho5 f5 hk5 => ?_
    simp only [inc_i64 (show i < 2 ^ 62 by omega), Qk, Ql, Qm, Qn, Qo, Qp, Qq, Qr, Qs, Q0, Q1, Q2, Q3, Q4, Q5, Q6, Q7, Q8, Q9, Qa, Qb, Qc, Qd, Qe, Qf, Qg, Qh, Qi, Qj]
    refine ⟨_, by omega, i + 1, put', k5, v5, l' ++ [p], rfl, rfl, hlt', ho5, by rw [← heq']; simp, by simp [hll']; omega, f14.up f5 (fun x hx => .inr (hk' x (by simpa using hx))), fun g hg => ?_⟩
    rcases hk5 with e | ⟨g', e, hge⟩
    · exact hk' g (by rw [← e, hg])
    · rw [hg] at e; cases e; have := f14.size; omega
  · have hie : i = hd.length := by simp at hlt; omega
    have hp1 : put.toNat ≤ 1 := by cases put <;> simp
    subst hie
    rw [List.drop_length] at heq
    refine ⟨fun vs H3 => ∃ out' k', vs = [out'] ∧ OwnS 2 90 HeadR D H3 k' out' (withF key value false hd) ∧ Frm [] H H3, ?_, ?_⟩
    · cases put with
      | false =>
        simp only [Q0, Q1, Q2, Q3, Q4, Q5, Q6, Q7, Q8, Q9, Qa, Qb, Qc, Qd, Qe, Qf, Qg, Qh, Qi, Qj, Bool.not_false]
        refine put_one hown (by simp at hll; omega) (fun x hx => by have := hD x hx; have := f1.size; omega) fun k' v' H3 ho f3 hk' => ?_
        exact ⟨v', k', rfl, by rw [← heq]; exact ho, f1.up f3 (fun x hx => .inr (hk x (by simpa using hx)))⟩
      | true =>
        simp only [Q0, Q1, Q2, Q3, Q4, Q5, Q6, Q7, Q8, Q9, Qa, Qb, Qc, Qd, Qe, Qf, Qg, Qh, Qi, Qj, Bool.not_true]
        refine ⟨out, k, rfl, ?_, f1⟩
        rw [← heq]
        simpa [withF] using hown
    · rintro _ H3 ⟨out', k', rfl, ho, f3⟩
      exact ⟨ho.slV Qx, f3⟩
end Go.Cps
namespace Go.Cps
open Go Go.Proofs
def firstOf (key : List UInt8) : List Hdr → List UInt8
  | [] => []
  | p :: r => if p.1 = key then p.2.headD [] else firstOf key r
theorem getE_G {key : List UInt8} : ∀ {G : List GEnt}, (getE key (G.map GEnt.pair) = none ∧ firstOf key (G.map (·.1)) = []) ∨ ∃ g ∈ G, getE key (G.map GEnt.pair) = some g.2 ∧ firstOf key (G.map (·.1)) = g.1.2.headD []
  | [] => .inl ⟨rfl, rfl⟩
  | g :: r => by
    by_cases hk : g.1.1 = key
    · refine .inr ⟨g, by simp, ?_, ?_⟩
      · simp only [List.map_cons, getE]
        rw [if_pos (show g.pair.1 = key from hk)]; rfl
      · simp only [List.map_cons, firstOf, if_pos hk]
    · rcases getE_G (key := key) (G := r) with ⟨h1, h2⟩ | ⟨g', hg, h1, h2⟩
      · refine .inl ⟨?_, ?_⟩
        · simp only [List.map_cons, getE]
          rw [if_neg (show ¬ g.pair.1 = key from hk)]; exact h1
        · simp only [List.map_cons, firstOf, if_neg hk]; exact h2
      · refine .inr ⟨g', by simp [hg], ?_, ?_⟩
        · simp only [List.map_cons, getE]
          rw [if_neg (show ¬ g.pair.1 = key from hk)]; exact h1
        · simp only [List.map_cons, firstOf, if_neg hk]; exact h2
theorem get_ok {D : List Nat} {H : Heap} {m : Nat} {G : List GEnt} {key : List UInt8} (hG : EntsG D H m G) (hl : key.length < 2 ^ 30) (ht : ∀ b ∈ key, tok b.toNat = true) (hc : canonG true key = key) :
    CallsH Tryz.prog 116 #[.map (some m), strVal key] H fun x H' => x = strVal (firstOf key (G.map (·.1))) ∧ Frm [] H H' := by
  apply s116
  have hn : nilV2 .eql (.map none) (.map (some m)) = some (.bool false) := rfl
  simp only [c116, hn, Q0, Q1, Q2, Q3, Q4, Q5, Q6, Q7, Q8, Q9, Qa, Qb, Qc, Qd, Qe, Qf, Qg, Qh, Qi, Qj]
  refine (canonId_ok (by omega) ht hc).mono ?_
  rintro x H1 ⟨rfl, rfl⟩
  have f1 : Frm [] H1 H1 := Frm.refl _ _
  have hG1 := hG.apart (X := []) (by simp)
  have hG2 := hG1.frm f1 (by simp)
  rw [lookup_of und106 hG2.map]
  rcases getE_G (key := key) (G := G) with ⟨h1, h2⟩ | ⟨g, hg, h1, h2⟩
  · rw [h1, h2]
    have e0 : lenV (.slice none 0 0) = some (.int .i64 ((0 : Nat) : Int)) := rfl
    have hz : (((0 : Nat) : Int) == 0) = true := by decide
    simp only [Option.getD_none, e0, Q0, Q1, Q2, Q3, Q4, Q5, Q6, Q7, Q8, Q9, Qa, Qb, Qc, Qd, Qe, Qf, Qg, Qh, Qi, Qj, Qk, Ql, Qm, Qn, Qo, Qp, Qq, Qr, Qs, hz]
    exact ⟨rfl, f1⟩
  · rw [h1, h2]
    have hs := hG2.strs g hg
    simp only [Option.getD_some, hs.len, Q0, Q1, Q2, Q3, Q4, Q5, Q6, Q7, Q8, Q9, Qa, Qb, Qc, Qd, Qe, Qf, Qg, Qh, Qi, Qj, Qk, Ql, Qm, Qn, Qo, Qp, Qq, Qr, Qs]
    refine Br_intro (fun h3 => ?_) (fun h3 => ?_)
    · have : g.1.2 = [] := List.eq_nil_of_length_eq_zero (by simpa using h3)
      rw [this]
      exact ⟨rfl, f1⟩
    · have hp : 0 < g.1.2.length := by simp at h3; exact List.length_pos_iff.2 h3
      obtain ⟨a, ha, hca⟩ := strs_elem hs hp
      have ha0 : elemAddrV 1 g.2 (.int .i64 0) = some (.pointer (some a)) := ha .i64
      have hld : load1V (.pointer (some a)) H1 = some (strVal g.1.2[0]) := hca
      simp only [ha0, Q6, hld]
      refine ⟨?_, f1⟩
      congr 1
      have hgen : ∀ (l : List (List UInt8)) (h : 0 < l.length), l[0] = l.headD [] := fun l h => by
        cases l with
        | nil => simp at h
        | cons s r => rfl
      exact hgen _ hp
end Go.Cps
namespace Go.Cps
open Go Go.Proofs
set_option maxRecDepth 100000
def c115 (a0 a1 : Value) (H : Heap) (R : Value → Heap → Prop) : Prop :=
  Get (lenStrV a0) fun x15 =>
  Get (lenStrV a1) fun x17 =>
  Get (minV x15 x17) fun x18 =>
  Loop [(.int .i64 0)] H fun K1 vs2 H =>
  Get (arithV .lss .i64 (nth vs2 0) x18) fun x21 =>
  Br x21 (
  Join (fun K3 =>
  Get (strIndexV a0 (nth vs2 0)) fun x26 =>
  Get (strIndexV a1 (nth vs2 0)) fun x29 =>
  Get (arithV .or .u8 x26 x29) fun x32 =>
  Get (arithV .geq .u8 x32 (.int .u8 128)) fun x33 =>
  Br x33 (
  False) (
  Get (arithV .eql .u8 x29 x26) fun x36 =>
  Br x36 (
  K3 [] H) (
  Join (fun K4 =>
  Get (arithV .lss .u8 x29 x26) fun x39 =>
  Br x39 (
  K4 [x29, x26] H) (
  K4 [x26, x29] H)) fun vs5 H =>
  Join (fun K6 =>
  Get (arithV .leq .u8 (.int .u8 65) (nth vs5 0)) fun x43 =>
  Br x43 (
  Get (arithV .leq .u8 (nth vs5 0) (.int .u8 90)) fun x46 =>
  Get (pickV (.bool true) x46 (.bool false)) fun x47 =>
  Br x47 (
  Get (arithV .add .u8 (nth vs5 0) (.int .u8 97)) fun x51 =>
  Get (arithV .sub .u8 x51 (.int .u8 65)) fun x52 =>
  Get (arithV .eql .u8 (nth vs5 1) x52) fun x53 =>
  Get (pickV (.bool true) x53 (.bool false)) fun x54 =>
  K6 [x54] H) (
  Get (pickV (.bool false) undef (.bool false)) fun x54_1 =>
  K6 [x54_1] H)) (
  Get (pickV (.bool false) undef (.bool false)) fun x47_1 =>
  Br x47_1 (
  Get (arithV .add .u8 (nth vs5 0) (.int .u8 97)) fun x51_1 =>
  Get (arithV .sub .u8 x51_1 (.int .u8 65)) fun x52_1 =>
  Get (arithV .eql .u8 (nth vs5 1) x52_1) fun x53_1 =>
  Get (pickV (.bool true) x53_1 (.bool false)) fun x54_2 =>
  K6 [x54_2] H) (
  Get (pickV (.bool false) undef (.bool false)) fun x54_3 =>
  K6 [x54_3] H))) fun vs7 H =>
  Br (nth vs7 0) (
  K3 [] H) (
  R (.bool false) H)))) fun _ H =>
  Get (arithV .add .i64 (nth vs2 0) (.int .i64 1)) fun x23 =>
  K1 [x23] H) (
  Get (lenStrV a0) fun x56 =>
  Get (lenStrV a1) fun x58 =>
  Get (arithV .eql .i64 x56 x58) fun x59 =>
  R x59 H)
def p115 : Plan := .seq (.leaf []) (.scope (.seq (.leaf []) (.seq (.seq (.leaf []) (.block (.loop [5] (.seq (.seq (.leaf []) (.cond (.leaf []) (.leaf []))) (.join [] (.block (.seq (.leaf []) (.seq (.leaf []) (.seq (.seq (.leaf []) (.cond (.leaf []) (.leaf []))) (.seq (.seq (.leaf []) (.cond (.leaf []) (.leaf []))) (.join [7, 8] (.seq (.leaf []) (.cond (.leaf []) (.leaf []))) (.seq (.join [54] (.leaf []) (.cond (.leaf []) (.leaf []))) (.seq (.leaf []) (.leaf []))))))))) (.leaf [])))))) (.seq (.seq (.leaf []) (.leaf [])) (.seq (.leaf []) (.seq (.leaf []) (.seq (.leaf []) (.seq (.seq (.leaf []) (.leaf [])) (.seq (.leaf []) (.leaf []))))))))))
theorem s115 {a0 a1 : Value} {H : Heap} {R : Value → Heap → Prop} (h : c115 a0 a1 H R) : CallsH Tryz.prog 115 #[a0, a1] H R :=
  callsH_of_eq p115 (fn := Tryz.f115) (c := Tryz.f115.body.getD .skip) (args := [a0, a1]) Tryz.func115 (by kernel_rfl) mixed (by kernel_rfl) (by kernel_rfl) (by kernel_rfl) h
def c117 (a0 a1 : Value) (H : Heap) (R : Value → Heap → Prop) : Prop :=
  CallsH Tryz.prog 98 #[a1] H fun x6 H =>
  ExecV Tryz.prog (Builtin.delete_ #[106, 9] 0 #[a0, x6]) H fun _ H =>
  R (.tuple #[]) H
def p117 : Plan := .leaf []
theorem s117 {a0 a1 : Value} {H : Heap} {R : Value → Heap → Prop} (h : c117 a0 a1 H R) : CallsH Tryz.prog 117 #[a0, a1] H R :=
  callsH_of_eq p117 (fn := Tryz.f117) (c := Tryz.f117.body.getD .skip) (args := [a0, a1]) Tryz.func117 (by kernel_rfl) mixed (by kernel_rfl) (by kernel_rfl) (by kernel_rfl) h
end Go.Cps
