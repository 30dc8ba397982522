/-
  A part of the proof: What the bodies of some functions of the program come to, at heap level, each proved of the program itself.
  Conditions: each contract's own.
-/
import Derived.Test.YtfajmapajpfocaaGreatDoorF4
set_option linter.all false
namespace Go.Cps
open Go Go.Proofs
set_option maxRecDepth 100000
def c8 (a0 a1 a2 a3 : Value) (H : Heap) (R : Value → Heap → Prop) : Prop :=
  Join (fun K1 =>
  CallsH Tryz.prog 17 #[a0] H fun x20 H =>
  Get (unV .not x20) fun x21 =>
  Br x21 (
  Get (pickV (.bool true) (.bool true) undef) fun x26 =>
  Br x26 (
  Get (pickV (.bool true) (.bool true) undef) fun x31 =>
  K1 [x31] H) (
  Get (lenV a3) fun x29 =>
  Get (arithV .gtr .i64 x29 (.int .i64 2147483647)) fun x30 =>
  Get (pickV (.bool false) (.bool true) x30) fun x31_1 =>
  K1 [x31_1] H)) (
  Get (lenStrV a1) fun x24 =>
  Get (arithV .gtr .i64 x24 (.int .i64 2147483647)) fun x25 =>
  Get (pickV (.bool false) (.bool true) x25) fun x26_1 =>
  Br x26_1 (
  Get (pickV (.bool true) (.bool true) undef) fun x31_2 =>
  K1 [x31_2] H) (
  Get (lenV a3) fun x29_1 =>
  Get (arithV .gtr .i64 x29_1 (.int .i64 2147483647)) fun x30_1 =>
  Get (pickV (.bool false) (.bool true) x30_1) fun x31_3 =>
  K1 [x31_3] H))) fun vs2 H =>
  Br (nth vs2 0) (
  R (.bool true) H) (
  Join (fun K3 =>
  Get (lenStrV a1) fun x33 =>
  Get (arithV .gtr .i64 x33 (.int .i64 16777216)) fun x34 =>
  Br x34 (
  Get (pickV (.bool true) (.bool true) undef) fun x39 =>
  K3 [x39] H) (
  Get (lenV a3) fun x37 =>
  Get (arithV .gtr .i64 x37 (.int .i64 16777216)) fun x38 =>
  Get (pickV (.bool false) (.bool true) x38) fun x39_1 =>
  K3 [x39_1] H)) fun vs4 H =>
  Br (nth vs4 0) (
  R (.bool true) H) (
  CallsH Tryz.prog 23 #[a3] H fun x42 H =>
  Get (extractV x42 0) fun x43 =>
  Get (extractV x42 1) fun x44 =>
  Join (fun K5 =>
  Get (unV .not x44) fun x46 =>
  Br x46 (
  Get (pickV (.bool true) (.bool true) undef) fun x50 =>
  Br x50 (
  Get (pickV (.bool true) (.bool true) undef) fun x56 =>
  Br x56 (
  Get (pickV (.bool true) (.bool true) undef) fun x62 =>
  Br x62 (
  Get (pickV (.bool true) (.bool true) undef) fun x67 =>
  Br x67 (
  Get (pickV (.bool true) (.bool true) undef) fun x73 =>
  K5 [x73] H) (
  CallsH Tryz.prog 25 #[a3, a1] H fun x71 H =>
  Get (unV .not x71) fun x72 =>
  Get (pickV (.bool false) (.bool true) x72) fun x73_1 =>
  K5 [x73_1] H)) (
  CallsH Tryz.prog 24 #[a0] H fun x65 H =>
  Get (unV .not x65) fun x66 =>
  Get (pickV (.bool false) (.bool true) x66) fun x67_1 =>
  Br x67_1 (
  Get (pickV (.bool true) (.bool true) undef) fun x73_2 =>
  K5 [x73_2] H) (
  CallsH Tryz.prog 25 #[a3, a1] H fun x71_1 H =>
  Get (unV .not x71_1) fun x72_1 =>
  Get (pickV (.bool false) (.bool true) x72_1) fun x73_3 =>
  K5 [x73_3] H))) (
  CallsH Tryz.prog 18 #[a0, a1] H fun x60 H =>
  Get (unV .not x60) fun x61 =>
  Get (pickV (.bool false) (.bool true) x61) fun x62_1 =>
  Br x62_1 (
  Get (pickV (.bool true) (.bool true) undef) fun x67_2 =>
  Br x67_2 (
  Get (pickV (.bool true) (.bool true) undef) fun x73_4 =>
  K5 [x73_4] H) (
  CallsH Tryz.prog 25 #[a3, a1] H fun x71_2 H =>
  Get (unV .not x71_2) fun x72_2 =>
  Get (pickV (.bool false) (.bool true) x72_2) fun x73_5 =>
  K5 [x73_5] H)) (
  CallsH Tryz.prog 24 #[a0] H fun x65_1 H =>
  Get (unV .not x65_1) fun x66_1 =>
  Get (pickV (.bool false) (.bool true) x66_1) fun x67_3 =>
  Br x67_3 (
  Get (pickV (.bool true) (.bool true) undef) fun x73_6 =>
  K5 [x73_6] H) (
  CallsH Tryz.prog 25 #[a3, a1] H fun x71_3 H =>
  Get (unV .not x71_3) fun x72_3 =>
  Get (pickV (.bool false) (.bool true) x72_3) fun x73_7 =>
  K5 [x73_7] H)))) (
  Get (lenV a0) fun x54 =>
  Get (arithV .geq .i64 a2 x54) fun x55 =>
  Get (pickV (.bool false) (.bool true) x55) fun x56_1 =>
  Br x56_1 (
  Get (pickV (.bool true) (.bool true) undef) fun x62_2 =>
  Br x62_2 (
  Get (pickV (.bool true) (.bool true) undef) fun x67_4 =>
  Br x67_4 (
  Get (pickV (.bool true) (.bool true) undef) fun x73_8 =>
  K5 [x73_8] H) (
  CallsH Tryz.prog 25 #[a3, a1] H fun x71_4 H =>
  Get (unV .not x71_4) fun x72_4 =>
  Get (pickV (.bool false) (.bool true) x72_4) fun x73_9 =>
  K5 [x73_9] H)) (
  CallsH Tryz.prog 24 #[a0] H fun x65_2 H =>
  Get (unV .not x65_2) fun x66_2 =>
  Get (pickV (.bool false) (.bool true) x66_2) fun x67_5 =>
  Br x67_5 (
  Get (pickV (.bool true) (.bool true) undef) fun x73_10 =>
  K5 [x73_10] H) (
  CallsH Tryz.prog 25 #[a3, a1] H fun x71_5 H =>
  Get (unV .not x71_5) fun x72_5 =>
  Get (pickV (.bool false) (.bool true) x72_5) fun x73_11 =>
  K5 [x73_11] H))) (
  CallsH Tryz.prog 18 #[a0, a1] H fun x60_1 H =>
  Get (unV .not x60_1) fun x61_1 =>
  Get (pickV (.bool false) (.bool true) x61_1) fun x62_3 =>
  Br x62_3 (
  Get (pickV (.bool true) (.bool true) undef) fun x67_6 =>
  Br x67_6 (
  Get (pickV (.bool true) (.bool true) undef) fun x73_12 =>
  K5 [x73_12] H) (
  CallsH Tryz.prog 25 #[a3, a1] H fun x71_6 H =>
  Get (unV .not x71_6) fun x72_6 =>
  Get (pickV (.bool false) (.bool true) x72_6) fun x73_13 =>
  K5 [x73_13] H)) (
  CallsH Tryz.prog 24 #[a0] H fun x65_3 H =>
  Get (unV .not x65_3) fun x66_3 =>
  Get (pickV (.bool false) (.bool true) x66_3) fun x67_7 =>
  Br x67_7 (
  Get (pickV (.bool true) (.bool true) undef) fun x73_14 =>
  K5 [x73_14] H) (
  CallsH Tryz.prog 25 #[a3, a1] H fun x71_7 H =>
  Get (unV .not x71_7) fun x72_7 =>
  Get (pickV (.bool false) (.bool true) x72_7) fun x73_15 =>
  K5 [x73_15] H))))) (
  Get (arithV .lss .i64 a2 (.int .i64 0)) fun x49 =>
  Get (pickV (.bool false) (.bool true) x49) fun x50_1 =>
  Br x50_1 (
  Get (pickV (.bool true) (.bool true) undef) fun x56_2 =>
  Br x56_2 (
  Get (pickV (.bool true) (.bool true) undef) fun x62_4 =>
  Br x62_4 (
  Get (pickV (.bool true) (.bool true) undef) fun x67_8 =>
  Br x67_8 (
  Get (pickV (.bool true) (.bool true) undef) fun x73_16 =>
  K5 [x73_16] H) (
  CallsH Tryz.prog 25 #[a3, a1] H fun x71_8 H =>
  Get (unV .not x71_8) fun x72_8 =>
  Get (pickV (.bool false) (.bool true) x72_8) fun x73_17 =>
  K5 [x73_17] H)) (
  CallsH Tryz.prog 24 #[a0] H fun x65_4 H =>
  Get (unV .not x65_4) fun x66_4 =>
  Get (pickV (.bool false) (.bool true) x66_4) fun x67_9 =>
  Br x67_9 (
  Get (pickV (.bool true) (.bool true) undef) fun x73_18 =>
  K5 [x73_18] H) (
  CallsH Tryz.prog 25 #[a3, a1] H fun x71_9 H =>
  Get (unV .not x71_9) fun x72_9 =>
  Get (pickV (.bool false) (.bool true) x72_9) fun x73_19 =>
  K5 [x73_19] H))) (
  CallsH Tryz.prog 18 #[a0, a1] H fun x60_2 H =>
  Get (unV .not x60_2) fun x61_2 =>
  Get (pickV (.bool false) (.bool true) x61_2) fun x62_5 =>
  Br x62_5 (
  Get (pickV (.bool true) (.bool true) undef) fun x67_10 =>
  Br x67_10 (
  Get (pickV (.bool true) (.bool true) undef) fun x73_20 =>
  K5 [x73_20] H) (
  CallsH Tryz.prog 25 #[a3, a1] H fun x71_10 H =>
  Get (unV .not x71_10) fun x72_10 =>
  Get (pickV (.bool false) (.bool true) x72_10) fun x73_21 =>
  K5 [x73_21] H)) (
  CallsH Tryz.prog 24 #[a0] H fun x65_5 H =>
  Get (unV .not x65_5) fun x66_5 =>
  Get (pickV (.bool false) (.bool true) x66_5) fun x67_11 =>
  Br x67_11 (
  Get (pickV (.bool true) (.bool true) undef) fun x73_22 =>
  K5 [x73_22] H) (
  CallsH Tryz.prog 25 #[a3, a1] H fun x71_11 H =>
  Get (unV .not x71_11) fun x72_11 =>
  Get (pickV (.bool false) (.bool true) x72_11) fun x73_23 =>
  K5 [x73_23] H)))) (
  Get (lenV a0) fun x54_1 =>
  Get (arithV .geq .i64 a2 x54_1) fun x55_1 =>
  Get (pickV (.bool false) (.bool true) x55_1) fun x56_3 =>
  Br x56_3 (
  Get (pickV (.bool true) (.bool true) undef) fun x62_6 =>
  Br x62_6 (
  Get (pickV (.bool true) (.bool true) undef) fun x67_12 =>
  Br x67_12 (
  Get (pickV (.bool true) (.bool true) undef) fun x73_24 =>
  K5 [x73_24] H) (
  CallsH Tryz.prog 25 #[a3, a1] H fun x71_12 H =>
  Get (unV .not x71_12) fun x72_12 =>
  Get (pickV (.bool false) (.bool true) x72_12) fun x73_25 =>
  K5 [x73_25] H)) (
  CallsH Tryz.prog 24 #[a0] H fun x65_6 H =>
  Get (unV .not x65_6) fun x66_6 =>
  Get (pickV (.bool false) (.bool true) x66_6) fun x67_13 =>
  Br x67_13 (
  Get (pickV (.bool true) (.bool true) undef) fun x73_26 =>
  K5 [x73_26] H) (
  CallsH Tryz.prog 25 #[a3, a1] H fun x71_13 H =>
  Get (unV .not x71_13) fun x72_13 =>
  Get (pickV (.bool false) (.bool true) x72_13) fun x73_27 =>
  K5 [x73_27] H))) (
  CallsH Tryz.prog 18 #[a0, a1] H fun x60_3 H =>
  Get (unV .not x60_3) fun x61_3 =>
  Get (pickV (.bool false) (.bool true) x61_3) fun x62_7 =>
  Br x62_7 (
  Get (pickV (.bool true) (.bool true) undef) fun x67_14 =>
  Br x67_14 (
  Get (pickV (.bool true) (.bool true) undef) fun x73_28 =>
  K5 [x73_28] H) (
  CallsH Tryz.prog 25 #[a3, a1] H fun x71_14 H =>
  Get (unV .not x71_14) fun x72_14 =>
  Get (pickV (.bool false) (.bool true) x72_14) fun x73_29 =>
  K5 [x73_29] H)) (
  CallsH Tryz.prog 24 #[a0] H fun x65_7 H =>
  Get (unV .not x65_7) fun x66_7 =>
  Get (pickV (.bool false) (.bool true) x66_7) fun x67_15 =>
  Br x67_15 (
  Get (pickV (.bool true) (.bool true) undef) fun x73_30 =>
  K5 [x73_30] H) (
  CallsH Tryz.prog 25 #[a3, a1] H fun x71_15 H =>
  Get (unV .not x71_15) fun x72_15 =>
  Get (pickV (.bool false) (.bool true) x72_15) fun x73_31 =>
  K5 [x73_31] H)))))) fun vs6 H =>
  Br (nth vs6 0) (
  R (.bool true) H) (
  Get (Instr.fill (fun j => some (j * 2, 2)) ((Array.range (0 * 2)).map ((#[(.slice none 0 0), (.slice none 0 0)] : Array Value)[· % 2]!)) []) fun cs => NewSl cs 39 0 H fun x74 H =>
  Append 39 2 48 #[(.slice none 0 0), (.slice none 0 0)] x74 a0 H fun x76 H =>
  Get (elemAddrV 2 a0 a2) fun x81 =>
  Get (fieldAddrV 0 x81) fun x82 =>
  Get (load1V x82 H) fun x83 =>
  CallsH Tryz.prog 26 #[x83, (.string ⟨#[67, 111, 110, 116, 101, 110, 116, 45, 84, 114, 97, 110, 115, 102, 101, 114, 45, 69, 110, 99, 111, 100, 105, 110, 103]⟩), (.string ⟨#[113, 117, 111, 116, 101, 100, 45, 112, 114, 105, 110, 116, 97, 98, 108, 101]⟩)] H fun x84 H =>
  Get ((fillV #[(0, 1), (1, 1)] #[(.slice none 0 0), (.slice none 0 0)] [(0, x84), (1, a3)]).map .agg) fun x86 =>
  Get (elemAddrV 2 x76 a2) fun x87 =>
  Get (storeNV 2 x87 x86 H) fun H =>
  CallsH Tryz.prog 18 #[x76, a1] H fun x90 H =>
  Get (unV .not x90) fun x91 =>
  Br x91 (
  R (.bool true) H) (
  Get (Instr.fill (fun j => some (j * 2, 2)) ((Array.range (0 * 2)).map ((#[(.slice none 0 0), (.slice none 0 0)] : Array Value)[· % 2]!)) []) fun cs => NewSl cs 39 0 H fun x92 H =>
  Append 39 2 48 #[(.slice none 0 0), (.slice none 0 0)] x92 a0 H fun x94 H =>
  Get (elemAddrV 2 a0 a2) fun x99 =>
  Get (fieldAddrV 0 x99) fun x100 =>
  Get (load1V x100 H) fun x101 =>
  Get ((fillV #[(0, 1), (1, 1)] #[(.slice none 0 0), (.slice none 0 0)] [(0, x101), (1, x43)]).map .agg) fun x103 =>
  Get (elemAddrV 2 x94 a2) fun x104 =>
  Get (storeNV 2 x104 x103 H) fun H =>
  CallsH Tryz.prog 10 #[a1, x76] H fun x108 H =>
  Get (extractV x108 0) fun x109 =>
  Get (extractV x108 1) fun x110 =>
  CallsH Tryz.prog 27 #[x109, a1] H fun x114 H =>
  Get (extractV x114 0) fun x115 =>
  Get (extractV x114 1) fun x116 =>
  CallsH Tryz.prog 11 #[x109, a1] H fun x120 H =>
  Get (extractV x120 0) fun x121 =>
  Get (extractV x120 1) fun x122 =>
  Join (fun K7 =>
  Br x110 (
  Get (arithV .eql .i64 x116 (.int .i64 1)) fun x126 =>
  Get (pickV (.bool true) x126 (.bool false)) fun x127 =>
  Br x127 (
  Get (arithV .eql .i64 x122 (.int .i64 1)) fun x130 =>
  Get (pickV (.bool true) x130 (.bool false)) fun x131 =>
  Br x131 (
  CallsH Tryz.prog 20 #[x94] H fun x135 H =>
  CallsH Tryz.prog 15 #[x115, x135] H fun x136 H =>
  Get (pickV (.bool true) x136 (.bool false)) fun x137 =>
  Br x137 (
  CallsH Tryz.prog 20 #[x76] H fun x141 H =>
  CallsH Tryz.prog 15 #[x121, x141] H fun x142 H =>
  Get (pickV (.bool true) x142 (.bool false)) fun x143 =>
  K7 [x143] H) (
  Get (pickV (.bool false) undef (.bool false)) fun x143_1 =>
  K7 [x143_1] H)) (
  Get (pickV (.bool false) undef (.bool false)) fun x137_1 =>
  Br x137_1 (
  CallsH Tryz.prog 20 #[x76] H fun x141_1 H =>
  CallsH Tryz.prog 15 #[x121, x141_1] H fun x142_1 H =>
  Get (pickV (.bool true) x142_1 (.bool false)) fun x143_2 =>
  K7 [x143_2] H) (
  Get (pickV (.bool false) undef (.bool false)) fun x143_3 =>
  K7 [x143_3] H))) (
  Get (pickV (.bool false) undef (.bool false)) fun x131_1 =>
  Br x131_1 (
  CallsH Tryz.prog 20 #[x94] H fun x135_1 H =>
  CallsH Tryz.prog 15 #[x115, x135_1] H fun x136_1 H =>
  Get (pickV (.bool true) x136_1 (.bool false)) fun x137_2 =>
  Br x137_2 (
  CallsH Tryz.prog 20 #[x76] H fun x141_2 H =>
  CallsH Tryz.prog 15 #[x121, x141_2] H fun x142_2 H =>
  Get (pickV (.bool true) x142_2 (.bool false)) fun x143_4 =>
  K7 [x143_4] H) (
  Get (pickV (.bool false) undef (.bool false)) fun x143_5 =>
  K7 [x143_5] H)) (
  Get (pickV (.bool false) undef (.bool false)) fun x137_3 =>
  Br x137_3 (
  CallsH Tryz.prog 20 #[x76] H fun x141_3 H =>
  CallsH Tryz.prog 15 #[x121, x141_3] H fun x142_3 H =>
  Get (pickV (.bool true) x142_3 (.bool false)) fun x143_6 =>
  K7 [x143_6] H) (
  Get (pickV (.bool false) undef (.bool false)) fun x143_7 =>
  K7 [x143_7] H)))) (
  Get (pickV (.bool false) undef (.bool false)) fun x127_1 =>
  Br x127_1 (
  Get (arithV .eql .i64 x122 (.int .i64 1)) fun x130_1 =>
  Get (pickV (.bool true) x130_1 (.bool false)) fun x131_2 =>
  Br x131_2 (
  CallsH Tryz.prog 20 #[x94] H fun x135_2 H =>
  CallsH Tryz.prog 15 #[x115, x135_2] H fun x136_2 H =>
  Get (pickV (.bool true) x136_2 (.bool false)) fun x137_4 =>
  Br x137_4 (
  CallsH Tryz.prog 20 #[x76] H fun x141_4 H =>
  CallsH Tryz.prog 15 #[x121, x141_4] H fun x142_4 H =>
  Get (pickV (.bool true) x142_4 (.bool false)) fun x143_8 =>
  K7 [x143_8] H) (
  Get (pickV (.bool false) undef (.bool false)) fun x143_9 =>
  K7 [x143_9] H)) (
  Get (pickV (.bool false) undef (.bool false)) fun x137_5 =>
  Br x137_5 (
  CallsH Tryz.prog 20 #[x76] H fun x141_5 H =>
  CallsH Tryz.prog 15 #[x121, x141_5] H fun x142_5 H =>
  Get (pickV (.bool true) x142_5 (.bool false)) fun x143_10 =>
  K7 [x143_10] H) (
  Get (pickV (.bool false) undef (.bool false)) fun x143_11 =>
  K7 [x143_11] H))) (
  Get (pickV (.bool false) undef (.bool false)) fun x131_3 =>
  Br x131_3 (
  CallsH Tryz.prog 20 #[x94] H fun x135_3 H =>
  CallsH Tryz.prog 15 #[x115, x135_3] H fun x136_3 H =>
  Get (pickV (.bool true) x136_3 (.bool false)) fun x137_6 =>
  Br x137_6 (
  CallsH Tryz.prog 20 #[x76] H fun x141_6 H =>
  CallsH Tryz.prog 15 #[x121, x141_6] H fun x142_6 H =>
  Get (pickV (.bool true) x142_6 (.bool false)) fun x143_12 =>
  K7 [x143_12] H) (
  Get (pickV (.bool false) undef (.bool false)) fun x143_13 =>
  K7 [x143_13] H)) (
  Get (pickV (.bool false) undef (.bool false)) fun x137_7 =>
  Br x137_7 (
  CallsH Tryz.prog 20 #[x76] H fun x141_7 H =>
  CallsH Tryz.prog 15 #[x121, x141_7] H fun x142_7 H =>
  Get (pickV (.bool true) x142_7 (.bool false)) fun x143_14 =>
  K7 [x143_14] H) (
  Get (pickV (.bool false) undef (.bool false)) fun x143_15 =>
  K7 [x143_15] H))))) fun vs8 H =>
  R (nth vs8 0) H))))
def p8 : Plan := .seq (.leaf []) (.seq (.join [31] (.leaf []) (.cond (.seq (.leaf []) (.leaf [])) (.leaf []))) (.seq (.join [39] (.leaf []) (.cond (.seq (.leaf []) (.leaf [])) (.leaf []))) (.seq (.leaf []) (.seq (.join [73] (.leaf []) (.cond (.seq (.leaf []) (.leaf [])) (.leaf []))) (.seq (.leaf []) (.seq (.leaf []) (.seq (.seq (.leaf []) (.cond (.seq (.leaf []) (.leaf [])) (.leaf []))) (.seq (.leaf []) (.seq (.leaf []) (.seq (.leaf []) (.seq (.leaf []) (.seq (.leaf []) (.join [8] (.leaf []) (.leaf []))))))))))))))
theorem s8 {a0 a1 a2 a3 : Value} {H : Heap} {R : Value → Heap → Prop} (h : c8 a0 a1 a2 a3 H R) : CallsH Tryz.prog 8 #[a0, a1, a2, a3] H R :=
  callsH_of_eq p8 (fn := Tryz.f8) (c := Tryz.f8.body.getD .skip) (args := [a0, a1, a2, a3]) Tryz.func8 (by kernel_rfl) mixed (by kernel_rfl) (by kernel_rfl) (by kernel_rfl) h
def c23 (a0 : Value) (H : Heap) (R : Value → Heap → Prop) : Prop :=
  Loop [a0, (.slice none 0 0)] H fun K1 vs2 H =>
  CallsH Tryz.prog 55 #[(nth vs2 0)] H fun x13 H =>
  Get (extractV x13 0) fun x14 =>
  Get (extractV x13 1) fun x15 =>
  Get (extractV x13 2) fun x16 =>
  Join (fun K3 =>
  Get (unV .not x16) fun x18 =>
  Br x18 (
  Get (bytesV (nth vs2 0) H) fun x20 =>
  K3 [x20] H) (
  K3 [x14] H)) fun vs4 H =>
  CallsH Tryz.prog 56 #[(nth vs4 0)] H fun x23 H =>
  Get (extractV x23 0) fun x24 =>
  Get (extractV x23 1) fun x25 =>
  Get (extractV x23 2) fun x26 =>
  Join (fun K5 =>
  Get (unV .not x26) fun x28 =>
  Br x28 (
  Get (pickV (.bool true) (.bool true) undef) fun x35 =>
  K5 [x35] H) (
  Br x25 (
  Get (unV .not x16) fun x33 =>
  Get (pickV (.bool true) x33 (.bool false)) fun x34 =>
  Get (pickV (.bool false) (.bool true) x34) fun x35_1 =>
  K5 [x35_1] H) (
  Get (pickV (.bool false) undef (.bool false)) fun x34_1 =>
  Get (pickV (.bool false) (.bool true) x34_1) fun x35_2 =>
  K5 [x35_2] H))) fun vs6 H =>
  Br (nth vs6 0) (
  R (.tuple #[(.slice none 0 0), (.bool false)]) H) (
  Append 5 1 1 #[(.int .u8 0)] (nth vs2 1) x24 H fun x38 H =>
  Get (unV .not x16) fun x40 =>
  Br x40 (
  R (.tuple #[x38, (.bool true)]) H) (
  Join (fun K7 =>
  Get (unV .not x25) fun x43 =>
  Br x43 (
  Append 5 1 1 #[(.int .u8 0)] x38 (.string ⟨#[13, 10]⟩) H fun x45 H =>
  K7 [x45] H) (
  K7 [x38] H)) fun vs8 H =>
  K1 [x15, (nth vs8 0)] H))
def p23 : Plan := .seq (.leaf []) (.seq (.leaf []) (.block (.loop [0, 4] (.block (.seq (.leaf []) (.join [5] (.seq (.leaf []) (.cond (.leaf []) (.leaf []))) (.seq (.leaf []) (.seq (.join [35] (.leaf []) (.cond (.seq (.leaf []) (.leaf [])) (.leaf []))) (.seq (.leaf []) (.seq (.seq (.leaf []) (.cond (.seq (.leaf []) (.leaf [])) (.leaf []))) (.join [4] (.seq (.leaf []) (.cond (.leaf []) (.leaf []))) (.leaf []))))))))))))
theorem s23 {a0 : Value} {H : Heap} {R : Value → Heap → Prop} (h : c23 a0 H R) : CallsH Tryz.prog 23 #[a0] H R :=
  callsH_of_eq p23 (fn := Tryz.f23) (c := Tryz.f23.body.getD .skip) (args := [a0]) Tryz.func23 (by kernel_rfl) mixed (by kernel_rfl) (by kernel_rfl) (by kernel_rfl) h
def c24 (a0 : Value) (H : Heap) (R : Value → Heap → Prop) : Prop :=
  Get (lenV a0) fun x6 =>
  Loop [(.int .i64 0)] H fun K1 vs2 H =>
  Get (arithV .lss .i64 (nth vs2 0) x6) fun x8 =>
  Br x8 (
  Get (elemAddrV 2 a0 (nth vs2 0)) fun x9 =>
  Get (loadNV 2 x9 H) fun x10 =>
  New (.cells #[(.slice none 0 0), (.slice none 0 0)] 39 (0, 0)) H fun x4 H =>
  Get (storeNV 2 x4 x10 H) fun H =>
  Get (fieldAddrV 0 x4) fun x11 =>
  Get (load1V x11 H) fun x12 =>
  CallsH Tryz.prog 57 #[x12, (.string ⟨#[67, 111, 110, 116, 101, 110, 116, 45, 84, 114, 97, 110, 115, 102, 101, 114, 45, 69, 110, 99, 111, 100, 105, 110, 103]⟩)] H fun x13 H =>
  Br x13 (
  R (.bool false) H) (
  Get (arithV .add .i64 (nth vs2 0) (.int .i64 1)) fun x14 =>
  K1 [x14] H)) (
  R (.bool true) H)
def p24 : Plan := .seq (.leaf []) (.seq (.seq (.leaf []) (.block (.loop [7] (.seq (.leaf []) (.seq (.cond (.leaf []) (.leaf [])) (.seq (.block (.seq (.leaf []) (.seq (.leaf []) (.cond (.seq (.leaf []) (.leaf [])) (.leaf []))))) (.leaf []))))))) (.seq (.leaf []) (.leaf [])))
theorem s24 {a0 : Value} {H : Heap} {R : Value → Heap → Prop} (h : c24 a0 H R) : CallsH Tryz.prog 24 #[a0] H R :=
  callsH_of_eq p24 (fn := Tryz.f24) (c := Tryz.f24.body.getD .skip) (args := [a0]) Tryz.func24 (by kernel_rfl) mixed (by kernel_rfl) (by kernel_rfl) (by kernel_rfl) h
def c26 (a0 a1 a2 : Value) (H : Heap) (R : Value → Heap → Prop) : Prop :=
  Get (lenV a0) fun x12 =>
  Loop [(.slice none 0 0), (.bool false), (.int .i64 0)] H fun K1 vs2 H =>
  Get (arithV .lss .i64 (nth vs2 2) x12) fun x14 =>
  Br x14 (
  Get (elemAddrV 2 a0 (nth vs2 2)) fun x15 =>
  Get (loadNV 2 x15 H) fun x16 =>
  New (.cells #[(.string ⟨#[]⟩), (.slice none 0 0)] 90 (0, 0)) H fun x10 H =>
  Get (storeNV 2 x10 x16 H) fun H =>
  Join (fun K3 =>
  Join (fun K4 =>
  Get (unV .not (nth vs2 1)) fun x18 =>
  Br x18 (
  Get (fieldAddrV 0 x10) fun x21 =>
  Get (load1V x21 H) fun x22 =>
  Get (strV .lss a1 x22) fun x23 =>
  Get (pickV (.bool true) x23 (.bool false)) fun x24 =>
  K4 [x24] H) (
  Get (pickV (.bool false) undef (.bool false)) fun x24_1 =>
  K4 [x24_1] H)) fun vs5 H =>
  Br (nth vs5 0) (
  Get (Instr.fill (fun j => some (j * 1, 1)) ((Array.range (1 * 1)).map ((#[(.string ⟨#[]⟩)] : Array Value)[· % 1]!)) [(0, a2)]) fun cs => NewSl cs 9 1 H fun x28 H =>
  Get ((fillV #[(0, 1), (1, 1)] #[(.string ⟨#[]⟩), (.slice none 0 0)] [(0, a1), (1, x28)]).map .agg) fun x29 =>
  Get (Instr.fill (fun j => some (j * 2, 2)) ((Array.range (1 * 2)).map ((#[(.string ⟨#[]⟩), (.slice none 0 0)] : Array Value)[· % 2]!)) [(0, x29)]) fun cs => NewSl cs 90 1 H fun x30 H =>
  Append 90 2 40 #[(.string ⟨#[]⟩), (.slice none 0 0)] (nth vs2 0) x30 H fun x31 H =>
  K3 [x31, (.bool true)] H) (
  K3 [(nth vs2 0), (nth vs2 1)] H)) fun vs6 H =>
  Get (loadNV 2 x10 H) fun x33 =>
  Get (Instr.fill (fun j => some (j * 2, 2)) ((Array.range (1 * 2)).map ((#[(.string ⟨#[]⟩), (.slice none 0 0)] : Array Value)[· % 2]!)) [(0, x33)]) fun cs => NewSl cs 90 1 H fun x34 H =>
  Append 90 2 40 #[(.string ⟨#[]⟩), (.slice none 0 0)] (nth vs6 0) x34 H fun x35 H =>
  Get (arithV .add .i64 (nth vs2 2) (.int .i64 1)) fun x36 =>
  K1 [x35, (nth vs6 1), x36] H) (
  Join (fun K7 =>
  Get (unV .not (nth vs2 1)) fun x38 =>
  Br x38 (
  Get (Instr.fill (fun j => some (j * 1, 1)) ((Array.range (1 * 1)).map ((#[(.string ⟨#[]⟩)] : Array Value)[· % 1]!)) [(0, a2)]) fun cs => NewSl cs 9 1 H fun x42 H =>
  Get ((fillV #[(0, 1), (1, 1)] #[(.string ⟨#[]⟩), (.slice none 0 0)] [(0, a1), (1, x42)]).map .agg) fun x43 =>
  Get (Instr.fill (fun j => some (j * 2, 2)) ((Array.range (1 * 2)).map ((#[(.string ⟨#[]⟩), (.slice none 0 0)] : Array Value)[· % 2]!)) [(0, x43)]) fun cs => NewSl cs 90 1 H fun x44 H =>
  Append 90 2 40 #[(.string ⟨#[]⟩), (.slice none 0 0)] (nth vs2 0) x44 H fun x45 H =>
  K7 [x45] H) (
  K7 [(nth vs2 0)] H)) fun vs8 H =>
  R (nth vs8 0) H)
def p26 : Plan := .seq (.leaf []) (.seq (.leaf []) (.seq (.leaf []) (.seq (.seq (.leaf []) (.block (.loop [7, 8, 13] (.seq (.leaf []) (.seq (.cond (.leaf []) (.leaf [])) (.seq (.block (.seq (.leaf []) (.join [7, 8] (.join [24] (.leaf []) (.cond (.seq (.leaf []) (.leaf [])) (.leaf []))) (.leaf [])))) (.leaf []))))))) (.join [7] (.seq (.leaf []) (.cond (.leaf []) (.leaf []))) (.seq (.leaf []) (.leaf []))))))
theorem s26 {a0 a1 a2 : Value} {H : Heap} {R : Value → Heap → Prop} (h : c26 a0 a1 a2 H R) : CallsH Tryz.prog 26 #[a0, a1, a2] H R :=
  callsH_of_eq p26 (fn := Tryz.f26) (c := Tryz.f26.body.getD .skip) (args := [a0, a1, a2]) Tryz.func26 (by kernel_rfl) mixed (by kernel_rfl) (by kernel_rfl) (by kernel_rfl) h
def c57 (a0 a1 : Value) (H : Heap) (R : Value → Heap → Prop) : Prop :=
  Get (lenV a0) fun x8 =>
  Loop [(.int .i64 0)] H fun K1 vs2 H =>
  Get (arithV .lss .i64 (nth vs2 0) x8) fun x10 =>
  Br x10 (
  Get (elemAddrV 2 a0 (nth vs2 0)) fun x11 =>
  Get (loadNV 2 x11 H) fun x12 =>
  New (.cells #[(.string ⟨#[]⟩), (.slice none 0 0)] 90 (0, 0)) H fun x6 H =>
  Get (storeNV 2 x6 x12 H) fun H =>
  Get (fieldAddrV 0 x6) fun x13 =>
  Get (load1V x13 H) fun x14 =>
  CallsH Tryz.prog 77 #[x14] H fun x15 H =>
  Get (strV .eql x15 a1) fun x17 =>
  Br x17 (
  R (.bool true) H) (
  Get (arithV .add .i64 (nth vs2 0) (.int .i64 1)) fun x18 =>
  K1 [x18] H)) (
  R (.bool false) H)
def p57 : Plan := .seq (.leaf []) (.seq (.seq (.leaf []) (.block (.loop [9] (.seq (.leaf []) (.seq (.cond (.leaf []) (.leaf [])) (.seq (.block (.seq (.leaf []) (.seq (.leaf []) (.cond (.seq (.leaf []) (.leaf [])) (.leaf []))))) (.leaf []))))))) (.seq (.leaf []) (.leaf [])))
theorem s57 {a0 a1 : Value} {H : Heap} {R : Value → Heap → Prop} (h : c57 a0 a1 H R) : CallsH Tryz.prog 57 #[a0, a1] H R :=
  callsH_of_eq p57 (fn := Tryz.f57) (c := Tryz.f57.body.getD .skip) (args := [a0, a1]) Tryz.func57 (by kernel_rfl) mixed (by kernel_rfl) (by kernel_rfl) (by kernel_rfl) h
def c59 (a0 : Value) (H : Heap) (R : Value → Heap → Prop) : Prop :=
  CallsH Tryz.prog 72 #[] H fun x5 H =>
  CallsH Tryz.prog 71 #[a0, (.bool false), (.int .i64 10485760), x5] H fun x6 H =>
  Get (extractV x6 0) fun x7 =>
  Get (extractV x6 1) fun x8 =>
  R (.tuple #[x7, x8]) H
def p59 : Plan := .seq (.leaf []) (.seq (.leaf []) (.leaf []))
theorem s59 {a0 : Value} {H : Heap} {R : Value → Heap → Prop} (h : c59 a0 H R) : CallsH Tryz.prog 59 #[a0] H R :=
  callsH_of_eq p59 (fn := Tryz.f59) (c := Tryz.f59.body.getD .skip) (args := [a0]) Tryz.func59 (by kernel_rfl) mixed (by kernel_rfl) (by kernel_rfl) (by kernel_rfl) h
def c116 (a0 a1 : Value) (H : Heap) (R : Value → Heap → Prop) : Prop :=
  Get (nilV2 .eql (.map none) a0) fun x7 =>
  Br x7 (
  R (.string ⟨#[]⟩) H) (
  CallsH Tryz.prog 98 #[a1] H fun x10 H =>
  ExecV Tryz.prog (Instr.lookup 106 a0 x10 false) H fun x11 H =>
  Get (lenV x11) fun x13 =>
  Get (arithV .eql .i64 x13 (.int .i64 0)) fun x14 =>
  Br x14 (
  R (.string ⟨#[]⟩) H) (
  Get (elemAddrV 1 x11 (.int .i64 0)) fun x16 =>
  Get (load1V x16 H) fun x17 =>
  R x17 H))
def p116 : Plan := .seq (.leaf []) (.seq (.seq (.leaf []) (.cond (.seq (.leaf []) (.leaf [])) (.leaf []))) (.seq (.leaf []) (.seq (.seq (.leaf []) (.cond (.seq (.leaf []) (.leaf [])) (.leaf []))) (.seq (.leaf []) (.leaf [])))))
theorem s116 {a0 a1 : Value} {H : Heap} {R : Value → Heap → Prop} (h : c116 a0 a1 H R) : CallsH Tryz.prog 116 #[a0, a1] H R :=
  callsH_of_eq p116 (fn := Tryz.f116) (c := Tryz.f116.body.getD .skip) (args := [a0, a1]) Tryz.func116 (by kernel_rfl) mixed (by kernel_rfl) (by kernel_rfl) (by kernel_rfl) h
def c118 (a0 : Value) (H : Heap) (R : Value → Heap → Prop) : Prop :=
  CallsH Tryz.prog 147 #[a0] H fun x4 H =>
  Get ((fillV #[(0, 1), (1, 1), (2, 1)] #[(.pointer none), .nilIface, (.slice none 0 0)] [(0, x4)]).map .agg) fun x5 =>
  New (.cells (Value.cells x5) 223 (0, 0)) H fun x6 H =>
  R x6 H
def p118 : Plan := .seq (.leaf []) (.seq (.leaf []) (.leaf []))
theorem s118 {a0 : Value} {H : Heap} {R : Value → Heap → Prop} (h : c118 a0 H R) : CallsH Tryz.prog 118 #[a0] H R :=
  callsH_of_eq p118 (fn := Tryz.f118) (c := Tryz.f118.body.getD .skip) (args := [a0]) Tryz.func118 (by kernel_rfl) mixed (by kernel_rfl) (by kernel_rfl) (by kernel_rfl) h
def c231 (a0 a1 : Value) (H : Heap) (R : Value → Heap → Prop) : Prop :=
  Loop [a1, (.int .i64 0)] H fun K1 vs2 H =>
  Get (lenV (nth vs2 0)) fun x12 =>
  Get (arithV .gtr .i64 x12 (.int .i64 0)) fun x13 =>
  Br x13 (
  Fld 2 a0 H fun x17 =>
  Get (lenV x17) fun x18 =>
  Get (arithV .eql .i64 x18 (.int .i64 0)) fun x19 =>
  Br x19 (
  Fld 1 a0 H fun x23 =>
  Get (nilV2 .neq .nilIface x23) fun x24 =>
  Br x24 (
  Fld 1 a0 H fun x29 =>
  R (.tuple #[(nth vs2 1), x29]) H) (
  Fld 0 a0 H fun x36 =>
  CallsH Tryz.prog 93 #[x36, (.int .u8 10)] H fun x37 H =>
  Get (extractV x37 0) fun x38 =>
  Get (extractV x37 1) fun x39 =>
  Get (nilV a0) fun x40 =>
  Get (fieldAddrV 2 x40) fun x41 =>
  Get (store1V x41 x38 H) fun H =>
  Get (nilV a0) fun x42 =>
  Get (fieldAddrV 1 x42) fun x43 =>
  Get (store1V x43 x39 H) fun H =>
  Fld 2 a0 H fun x47 =>
  Get (Instr.fill (fun j => some (j * 1, 1)) ((Array.range (1 * 1)).map ((#[(.int .u8 0)] : Array Value)[· % 1]!)) [(0, (.int .u8 10))]) fun cs => NewSl cs 5 1 H fun x48 H =>
  MarkS x48 H fun x49 H =>
  CallsH Tryz.prog 232 #[x47, x49] H fun x50 H =>
  Fld 2 a0 H fun x54 =>
  Get (Instr.fill (fun j => some (j * 1, 1)) ((Array.range (2 * 1)).map ((#[(.int .u8 0)] : Array Value)[· % 1]!)) [(0, (.int .u8 13)), (1, (.int .u8 10))]) fun cs => NewSl cs 5 2 H fun x55 H =>
  MarkS x55 H fun x56 H =>
  CallsH Tryz.prog 232 #[x54, x56] H fun x57 H =>
  Fld 2 a0 H fun x61 =>
  CallsH Tryz.prog 233 #[x61, (.func (.func 234) #[] #[])] H fun x64 H =>
  Get (nilV a0) fun x65 =>
  Get (fieldAddrV 2 x65) fun x66 =>
  Get (store1V x66 x64 H) fun H =>
  Join (fun K3 =>
  Fld 2 a0 H fun x70 =>
  Get (Instr.fill (fun j => some (j * 1, 1)) ((Array.range (1 * 1)).map ((#[(.int .u8 0)] : Array Value)[· % 1]!)) [(0, (.int .u8 61))]) fun cs => NewSl cs 5 1 H fun x71 H =>
  MarkS x71 H fun x72 H =>
  CallsH Tryz.prog 232 #[x70, x72] H fun x73 H =>
  Br x73 (
  Fld 2 a0 H fun x78 =>
  Get (lenV x78) fun x79 =>
  Get (sliceV 1 x61 (some x79) none none) fun x80 =>
  CallsH Tryz.prog 172 #[x80, (.string ⟨#[32, 9]⟩)] H fun x81 H =>
  Fld 2 a0 H fun x86 =>
  Fld 2 a0 H fun x90 =>
  Get (lenV x90) fun x91 =>
  Get (arithV .sub .i64 x91 (.int .i64 1)) fun x92 =>
  Get (sliceV 1 x86 none (some x92) none) fun x93 =>
  Get (nilV a0) fun x94 =>
  Get (fieldAddrV 2 x94) fun x95 =>
  Get (store1V x95 x93 H) fun H =>
  Join (fun K4 =>
  Get (Instr.fill (fun j => some (j * 1, 1)) ((Array.range (1 * 1)).map ((#[(.int .u8 0)] : Array Value)[· % 1]!)) [(0, (.int .u8 10))]) fun cs => NewSl cs 5 1 H fun x97 H =>
  MarkS x97 H fun x98 H =>
  CallsH Tryz.prog 58 #[x81, x98] H fun x99 H =>
  Get (unV .not x99) fun x100 =>
  Br x100 (
  Get (Instr.fill (fun j => some (j * 1, 1)) ((Array.range (2 * 1)).map ((#[(.int .u8 0)] : Array Value)[· % 1]!)) [(0, (.int .u8 13)), (1, (.int .u8 10))]) fun cs => NewSl cs 5 2 H fun x103 H =>
  MarkS x103 H fun x104 H =>
  CallsH Tryz.prog 58 #[x81, x104] H fun x105 H =>
  Get (unV .not x105) fun x106 =>
  Get (pickV (.bool true) x106 (.bool false)) fun x107 =>
  Br x107 (
  Get (lenV x81) fun x110 =>
  Get (arithV .eql .i64 x110 (.int .i64 0)) fun x111 =>
  Br x111 (
  Fld 2 a0 H fun x116 =>
  Get (lenV x116) fun x117 =>
  Get (arithV .gtr .i64 x117 (.int .i64 0)) fun x118 =>
  Get (pickV (.bool true) x118 (.bool false)) fun x119 =>
  Br x119 (
  Fld 1 a0 H fun x124 =>
  Get (load1V (.pointer (some ⟨0, 0, none⟩)) H) fun x125 =>
  ExecV Tryz.prog (do eqGuard .eql 60 (.tmp 124) (.tmp 125) x124 x125; binOp .eql 60 x124 x125) H fun x126 H =>
  Get (pickV (.bool true) x126 (.bool false)) fun x127 =>
  Get (unV .not x127) fun x128 =>
  Get (pickV (.bool true) x128 (.bool false)) fun x129 =>
  K4 [x129] H) (
  Get (pickV (.bool false) undef (.bool false)) fun x127_1 =>
  Get (unV .not x127_1) fun x128_1 =>
  Get (pickV (.bool true) x128_1 (.bool false)) fun x129_1 =>
  K4 [x129_1] H)) (
  Get (pickV (.bool false) undef (.bool false)) fun x119_1 =>
  Br x119_1 (
  Fld 1 a0 H fun x124_1 =>
  Get (load1V (.pointer (some ⟨0, 0, none⟩)) H) fun x125_1 =>
  ExecV Tryz.prog (do eqGuard .eql 60 (.tmp 124) (.tmp 125) x124_1 x125_1; binOp .eql 60 x124_1 x125_1) H fun x126_1 H =>
  Get (pickV (.bool true) x126_1 (.bool false)) fun x127_2 =>
  Get (unV .not x127_2) fun x128_2 =>
  Get (pickV (.bool true) x128_2 (.bool false)) fun x129_2 =>
  K4 [x129_2] H) (
  Get (pickV (.bool false) undef (.bool false)) fun x127_3 =>
  Get (unV .not x127_3) fun x128_3 =>
  Get (pickV (.bool true) x128_3 (.bool false)) fun x129_3 =>
  K4 [x129_3] H))) (
  Get (pickV (.bool false) undef (.bool false)) fun x129_4 =>
  K4 [x129_4] H)) (
  Get (pickV (.bool false) undef (.bool false)) fun x107_1 =>
  Br x107_1 (
  Get (lenV x81) fun x110_1 =>
  Get (arithV .eql .i64 x110_1 (.int .i64 0)) fun x111_1 =>
  Br x111_1 (
  Fld 2 a0 H fun x116_1 =>
  Get (lenV x116_1) fun x117_1 =>
  Get (arithV .gtr .i64 x117_1 (.int .i64 0)) fun x118_1 =>
  Get (pickV (.bool true) x118_1 (.bool false)) fun x119_2 =>
  Br x119_2 (
  Fld 1 a0 H fun x124_2 =>
  Get (load1V (.pointer (some ⟨0, 0, none⟩)) H) fun x125_2 =>
  ExecV Tryz.prog (do eqGuard .eql 60 (.tmp 124) (.tmp 125) x124_2 x125_2; binOp .eql 60 x124_2 x125_2) H fun x126_2 H =>
  Get (pickV (.bool true) x126_2 (.bool false)) fun x127_4 =>
  Get (unV .not x127_4) fun x128_4 =>
  Get (pickV (.bool true) x128_4 (.bool false)) fun x129_5 =>
  K4 [x129_5] H) (
  Get (pickV (.bool false) undef (.bool false)) fun x127_5 =>
  Get (unV .not x127_5) fun x128_5 =>
  Get (pickV (.bool true) x128_5 (.bool false)) fun x129_6 =>
  K4 [x129_6] H)) (
  Get (pickV (.bool false) undef (.bool false)) fun x119_3 =>
  Br x119_3 (
  Fld 1 a0 H fun x124_3 =>
  Get (load1V (.pointer (some ⟨0, 0, none⟩)) H) fun x125_3 =>
  ExecV Tryz.prog (do eqGuard .eql 60 (.tmp 124) (.tmp 125) x124_3 x125_3; binOp .eql 60 x124_3 x125_3) H fun x126_3 H =>
  Get (pickV (.bool true) x126_3 (.bool false)) fun x127_6 =>
  Get (unV .not x127_6) fun x128_6 =>
  Get (pickV (.bool true) x128_6 (.bool false)) fun x129_7 =>
  K4 [x129_7] H) (
  Get (pickV (.bool false) undef (.bool false)) fun x127_7 =>
  Get (unV .not x127_7) fun x128_7 =>
  Get (pickV (.bool true) x128_7 (.bool false)) fun x129_8 =>
  K4 [x129_8] H))) (
  Get (pickV (.bool false) undef (.bool false)) fun x129_9 =>
  K4 [x129_9] H))) fun vs5 H =>
  Br (nth vs5 0) (
  CallsH Tryz.prog 60 #[(.string ⟨#[113, 117, 111, 116, 101, 100, 112, 114, 105, 110, 116, 97, 98, 108, 101, 58, 32, 105, 110, 118, 97, 108, 105, 100, 32, 98, 121, 116, 101, 115, 32, 97, 102, 116, 101, 114, 32, 61]⟩)] H fun x131 H =>
  Get (nilV a0) fun x132 =>
  Get (fieldAddrV 1 x132) fun x133 =>
  Get (store1V x133 x131 H) fun H =>
  K3 [] H) (
  K3 [] H)) (
  Br x50 (
  Br x57 (
  Fld 2 a0 H fun x140 =>
  Get (Instr.fill (fun j => some (j * 1, 1)) ((Array.range (2 * 1)).map ((#[(.int .u8 0)] : Array Value)[· % 1]!)) [(0, (.int .u8 13)), (1, (.int .u8 10))]) fun cs => NewSl cs 5 2 H fun x141 H =>
  Append 5 1 1 #[(.int .u8 0)] x140 x141 H fun x142 H =>
  Get (nilV a0) fun x143 =>
  Get (fieldAddrV 2 x143) fun x144 =>
  Get (store1V x144 x142 H) fun H =>
  K3 [] H) (
  Fld 2 a0 H fun x149 =>
  Get (Instr.fill (fun j => some (j * 1, 1)) ((Array.range (1 * 1)).map ((#[(.int .u8 0)] : Array Value)[· % 1]!)) [(0, (.int .u8 10))]) fun cs => NewSl cs 5 1 H fun x150 H =>
  Append 5 1 1 #[(.int .u8 0)] x149 x150 H fun x151 H =>
  Get (nilV a0) fun x152 =>
  Get (fieldAddrV 2 x152) fun x153 =>
  Get (store1V x153 x151 H) fun H =>
  K3 [] H)) (
  K3 [] H))) fun _ H =>
  K1 [(nth vs2 0), (nth vs2 1)] H)) (
  Fld 2 a0 H fun x157 =>
  Get (elemAddrV 1 x157 (.int .i64 0)) fun x158 =>
  Get (load1V x158 H) fun x159 =>
  Join (fun K7 =>
  Get (arithV .eql .u8 x159 (.int .u8 61)) fun x162 =>
  Br x162 (
  Fld 2 a0 H fun x167 =>
  Get (sliceV 1 x167 (some (.int .i64 1)) none none) fun x168 =>
  CallsH Tryz.prog 235 #[x168] H fun x169 H =>
  Get (extractV x169 0) fun x170 =>
  Get (extractV x169 1) fun x171 =>
  Get (nilV2 .neq .nilIface x171) fun x173 =>
  Br x173 (
  Join (fun K8 =>
  Fld 2 a0 H fun x177 =>
  Get (lenV x177) fun x178 =>
  Get (arithV .geq .i64 x178 (.int .i64 2)) fun x179 =>
  Br x179 (
  Fld 2 a0 H fun x184 =>
  Get (elemAddrV 1 x184 (.int .i64 1)) fun x185 =>
  Get (load1V x185 H) fun x186 =>
  Get (arithV .neq .u8 x186 (.int .u8 13)) fun x187 =>
  Get (pickV (.bool true) x187 (.bool false)) fun x188 =>
  Br x188 (
  Fld 2 a0 H fun x193 =>
  Get (elemAddrV 1 x193 (.int .i64 1)) fun x194 =>
  Get (load1V x194 H) fun x195 =>
  Get (arithV .neq .u8 x195 (.int .u8 10)) fun x196 =>
  Get (pickV (.bool true) x196 (.bool false)) fun x197 =>
  K8 [x197] H) (
  Get (pickV (.bool false) undef (.bool false)) fun x197_1 =>
  K8 [x197_1] H)) (
  Get (pickV (.bool false) undef (.bool false)) fun x188_1 =>
  Br x188_1 (
  Fld 2 a0 H fun x193_1 =>
  Get (elemAddrV 1 x193_1 (.int .i64 1)) fun x194_1 =>
  Get (load1V x194_1 H) fun x195_1 =>
  Get (arithV .neq .u8 x195_1 (.int .u8 10)) fun x196_1 =>
  Get (pickV (.bool true) x196_1 (.bool false)) fun x197_2 =>
  K8 [x197_2] H) (
  Get (pickV (.bool false) undef (.bool false)) fun x197_3 =>
  K8 [x197_3] H))) fun vs9 H =>
  Br (nth vs9 0) (
  K7 [(nth vs2 1), (.int .u8 61)] H) (
  R (.tuple #[(nth vs2 1), x171]) H)) (
  Fld 2 a0 H fun x204 =>
  Get (sliceV 1 x204 (some (.int .i64 2)) none none) fun x205 =>
  Get (nilV a0) fun x206 =>
  Get (fieldAddrV 2 x206) fun x207 =>
  Get (store1V x207 x205 H) fun H =>
  K7 [(nth vs2 1), x170] H)) (
  Join (fun K10 =>
  Get (arithV .eql .u8 x159 (.int .u8 9)) fun x210 =>
  Br x210 (
  Get (pickV (.bool true) (.bool true) undef) fun x214 =>
  Br x214 (
  Get (pickV (.bool true) (.bool true) undef) fun x218 =>
  K10 [x218] H) (
  Get (arithV .eql .u8 x159 (.int .u8 10)) fun x217 =>
  Get (pickV (.bool false) (.bool true) x217) fun x218_1 =>
  K10 [x218_1] H)) (
  Get (arithV .eql .u8 x159 (.int .u8 13)) fun x213 =>
  Get (pickV (.bool false) (.bool true) x213) fun x214_1 =>
  Br x214_1 (
  Get (pickV (.bool true) (.bool true) undef) fun x218_2 =>
  K10 [x218_2] H) (
  Get (arithV .eql .u8 x159 (.int .u8 10)) fun x217_1 =>
  Get (pickV (.bool false) (.bool true) x217_1) fun x218_3 =>
  K10 [x218_3] H))) fun vs11 H =>
  Br (nth vs11 0) (
  K7 [(nth vs2 1), x159] H) (
  Get (arithV .geq .u8 x159 (.int .u8 128)) fun x221 =>
  Br x221 (
  K7 [(nth vs2 1), x159] H) (
  Join (fun K12 =>
  Get (arithV .lss .u8 x159 (.int .u8 32)) fun x224 =>
  Br x224 (
  Get (pickV (.bool true) (.bool true) undef) fun x228 =>
  K12 [x228] H) (
  Get (arithV .gtr .u8 x159 (.int .u8 126)) fun x227 =>
  Get (pickV (.bool false) (.bool true) x227) fun x228_1 =>
  K12 [x228_1] H)) fun vs13 H =>
  Br (nth vs13 0) (
  CallsH Tryz.prog 60 #[(.string ⟨#[113, 117, 111, 116, 101, 100, 112, 114, 105, 110, 116, 97, 98, 108, 101, 58, 32, 105, 110, 118, 97, 108, 105, 100, 32, 117, 110, 101, 115, 99, 97, 112, 101, 100, 32, 98, 121, 116, 101, 32, 105, 110, 32, 98, 111, 100, 121]⟩)] H fun x230 H =>
  R (.tuple #[(nth vs2 1), x230]) H) (
  K7 [(nth vs2 1), x159] H))))) fun vs14 H =>
  Get (elemAddrV 1 (nth vs2 0) (.int .i64 0)) fun x233 =>
  Get (store1V x233 (nth vs14 1) H) fun H =>
  Get (sliceV 1 (nth vs2 0) (some (.int .i64 1)) none none) fun x235 =>
  Fld 2 a0 H fun x240 =>
  Get (sliceV 1 x240 (some (.int .i64 1)) none none) fun x241 =>
  Get (nilV a0) fun x242 =>
  Get (fieldAddrV 2 x242) fun x243 =>
  Get (store1V x243 x241 H) fun H =>
  Get (arithV .add .i64 (nth vs14 0) (.int .i64 1)) fun x245 =>
  K1 [x235, x245] H)) (
  R (.tuple #[(nth vs2 1), .nilIface]) H)
def p231 : Plan := .seq (.leaf []) (.seq (.block (.loop [1, 4] (.seq (.seq (.leaf []) (.cond (.leaf []) (.leaf []))) (.block (.seq (.seq (.leaf []) (.cond (.seq (.seq (.leaf []) (.cond (.seq (.leaf [0, 1, 2, 3, 4, 5, 6]) (.leaf [])) (.leaf []))) (.seq (.leaf []) (.seq (.leaf []) (.seq (.leaf []) (.seq (.leaf []) (.seq (.leaf []) (.join [] (.seq (.leaf []) (.cond (.seq (.leaf []) (.seq (.leaf [0, 1, 2, 3, 4, 5, 6, 7, 8, 9, 10, 11, 12, 13, 14]) (.join [129] (.leaf [0, 1, 2, 3, 4, 5, 6, 7, 8, 9, 10, 11, 12, 13, 14, 15, 16, 17, 18, 19, 20, 21, 22, 23, 24, 25, 26, 27, 28, 29, 30, 31, 32, 33]) (.cond (.leaf []) (.leaf []))))) (.seq (.leaf []) (.cond (.seq (.leaf []) (.cond (.leaf []) (.leaf []))) (.leaf []))))) (.leaf [])))))))) (.leaf []))) (.seq (.leaf []) (.join [4, 10] (.block (.seq (.leaf []) (.cond (.seq (.leaf []) (.seq (.seq (.leaf []) (.cond (.seq (.join [197] (.leaf []) (.cond (.seq (.leaf []) (.leaf [])) (.leaf []))) (.seq (.leaf []) (.leaf []))) (.leaf []))) (.leaf []))) (.join [208] (.leaf []) (.cond (.leaf []) (.seq (.leaf []) (.cond (.leaf []) (.join [222] (.leaf []) (.cond (.seq (.leaf []) (.leaf [])) (.leaf [])))))))))) (.seq (.leaf []) (.seq (.leaf []) (.seq (.leaf []) (.leaf []))))))))))) (.seq (.leaf []) (.leaf [])))
theorem s231 {a0 a1 : Value} {H : Heap} {R : Value → Heap → Prop} (h : c231 a0 a1 H R) : CallsH Tryz.prog 231 #[a0, a1] H R :=
  callsH_of_eq p231 (fn := Tryz.f231) (c := Tryz.f231.body.getD .skip) (args := [a0, a1]) Tryz.func231 (by kernel_rfl) mixed (by kernel_rfl) (by kernel_rfl) (by kernel_rfl) h
def c234 (a0 : Value) (H : Heap) (R : Value → Heap → Prop) : Prop :=
  Join (fun K1 =>
  Get (arithV .eql .i32 a0 (.int .i32 10)) fun x5 =>
  Br x5 (
  K1 [x5] H) (
  Get (arithV .eql .i32 a0 (.int .i32 13)) fun x6 =>
  Br x6 (
  K1 [x6] H) (
  Get (arithV .eql .i32 a0 (.int .i32 32)) fun x7 =>
  Br x7 (
  K1 [x7] H) (
  Get (arithV .eql .i32 a0 (.int .i32 9)) fun x8 =>
  K1 [x8] H)))) fun vs2 H =>
  Br (nth vs2 0) (
  R (.bool true) H) (
  R (.bool false) H)
def p234 : Plan := .seq (.leaf []) (.seq (.seq (.leaf []) (.block (.join [4] (.seq (.leaf []) (.cond (.leaf []) (.seq (.leaf []) (.cond (.leaf []) (.seq (.leaf []) (.cond (.leaf []) (.leaf []))))))) (.cond (.seq (.leaf []) (.leaf [])) (.leaf []))))) (.seq (.leaf []) (.leaf [])))
theorem s234 {a0 : Value} {H : Heap} {R : Value → Heap → Prop} (h : c234 a0 H R) : CallsH Tryz.prog 234 #[a0] H R :=
  callsH_of_eq p234 (fn := Tryz.f234) (c := Tryz.f234.body.getD .skip) (args := [a0]) Tryz.func234 (by kernel_rfl) mixed (by kernel_rfl) (by kernel_rfl) (by kernel_rfl) h
def c235 (a0 : Value) (H : Heap) (R : Value → Heap → Prop) : Prop :=
  Get (lenV a0) fun x7 =>
  Get (arithV .lss .i64 x7 (.int .i64 2)) fun x8 =>
  Br x8 (
  Get (load1V (.pointer (some ⟨16, 0, none⟩)) H) fun x9 =>
  R (.tuple #[(.int .u8 0), x9]) H) (
  Get (elemAddrV 1 a0 (.int .i64 0)) fun x12 =>
  Get (load1V x12 H) fun x13 =>
  CallsH Tryz.prog 237 #[x13] H fun x14 H =>
  Get (extractV x14 0) fun x15 =>
  Get (extractV x14 1) fun x16 =>
  Get (nilV2 .neq .nilIface x16) fun x18 =>
  Br x18 (
  R (.tuple #[(.int .u8 0), x16]) H) (
  Get (elemAddrV 1 a0 (.int .i64 1)) fun x22 =>
  Get (load1V x22 H) fun x23 =>
  CallsH Tryz.prog 237 #[x23] H fun x24 H =>
  Get (extractV x24 0) fun x25 =>
  Get (extractV x24 1) fun x26 =>
  Get (nilV2 .neq .nilIface x26) fun x28 =>
  Br x28 (
  R (.tuple #[(.int .u8 0), x26]) H) (
  Get (shiftV .shl .u8 x15 (.int .u64 4)) fun x31 =>
  Get (arithV .or .u8 x31 x25) fun x33 =>
  R (.tuple #[x33, .nilIface]) H)))
def p235 : Plan := .seq (.leaf []) (.seq (.seq (.leaf []) (.cond (.seq (.leaf [0, 1, 2]) (.leaf [])) (.leaf []))) (.seq (.leaf []) (.seq (.seq (.leaf []) (.seq (.leaf []) (.cond (.seq (.leaf []) (.leaf [])) (.leaf [])))) (.seq (.seq (.leaf []) (.seq (.leaf []) (.cond (.seq (.leaf []) (.leaf [])) (.leaf [])))) (.seq (.leaf []) (.leaf []))))))
theorem s235 {a0 : Value} {H : Heap} {R : Value → Heap → Prop} (h : c235 a0 H R) : CallsH Tryz.prog 235 #[a0] H R :=
  callsH_of_eq p235 (fn := Tryz.f235) (c := Tryz.f235.body.getD .skip) (args := [a0]) Tryz.func235 (by kernel_rfl) mixed (by kernel_rfl) (by kernel_rfl) (by kernel_rfl) h
def c237 (a0 : Value) (H : Heap) (R : Value → Heap → Prop) : Prop :=
  Join (fun K1 =>
  Get (arithV .geq .u8 a0 (.int .u8 48)) fun x6 =>
  Br x6 (
  Get (arithV .leq .u8 a0 (.int .u8 57)) fun x9 =>
  Get (pickV (.bool true) x9 (.bool false)) fun x10 =>
  K1 [x10] H) (
  Get (pickV (.bool false) undef (.bool false)) fun x10_1 =>
  K1 [x10_1] H)) fun vs2 H =>
  Br (nth vs2 0) (
  Get (arithV .sub .u8 a0 (.int .u8 48)) fun x12 =>
  R (.tuple #[x12, .nilIface]) H) (
  Join (fun K3 =>
  Get (arithV .geq .u8 a0 (.int .u8 65)) fun x15 =>
  Br x15 (
  Get (arithV .leq .u8 a0 (.int .u8 70)) fun x18 =>
  Get (pickV (.bool true) x18 (.bool false)) fun x19 =>
  K3 [x19] H) (
  Get (pickV (.bool false) undef (.bool false)) fun x19_1 =>
  K3 [x19_1] H)) fun vs4 H =>
  Br (nth vs4 0) (
  Get (arithV .sub .u8 a0 (.int .u8 65)) fun x21 =>
  Get (arithV .add .u8 x21 (.int .u8 10)) fun x22 =>
  R (.tuple #[x22, .nilIface]) H) (
  Join (fun K5 =>
  Get (arithV .geq .u8 a0 (.int .u8 97)) fun x25 =>
  Br x25 (
  Get (arithV .leq .u8 a0 (.int .u8 102)) fun x28 =>
  Get (pickV (.bool true) x28 (.bool false)) fun x29 =>
  K5 [x29] H) (
  Get (pickV (.bool false) undef (.bool false)) fun x29_1 =>
  K5 [x29_1] H)) fun vs6 H =>
  Br (nth vs6 0) (
  Get (arithV .sub .u8 a0 (.int .u8 97)) fun x31 =>
  Get (arithV .add .u8 x31 (.int .u8 10)) fun x32 =>
  R (.tuple #[x32, .nilIface]) H) (
  CallsH Tryz.prog 60 #[(.string ⟨#[113, 117, 111, 116, 101, 100, 112, 114, 105, 110, 116, 97, 98, 108, 101, 58, 32, 105, 110, 118, 97, 108, 105, 100, 32, 104, 101, 120, 32, 98, 121, 116, 101]⟩)] H fun x33 H =>
  R (.tuple #[(.int .u8 0), x33]) H)))
def p237 : Plan := .seq (.leaf []) (.seq (.block (.join [4] (.leaf []) (.cond (.seq (.leaf []) (.leaf [])) (.join [13] (.leaf []) (.cond (.seq (.leaf []) (.leaf [])) (.join [23] (.leaf []) (.cond (.seq (.leaf []) (.leaf [])) (.leaf [])))))))) (.seq (.leaf []) (.leaf [])))
theorem s237 {a0 : Value} {H : Heap} {R : Value → Heap → Prop} (h : c237 a0 H R) : CallsH Tryz.prog 237 #[a0] H R :=
  callsH_of_eq p237 (fn := Tryz.f237) (c := Tryz.f237.body.getD .skip) (args := [a0]) Tryz.func237 (by kernel_rfl) mixed (by kernel_rfl) (by kernel_rfl) (by kernel_rfl) h
end Go.Cps
