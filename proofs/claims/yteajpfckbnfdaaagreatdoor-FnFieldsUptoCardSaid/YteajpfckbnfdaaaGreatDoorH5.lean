/-
  A part of the proof: What the bodies of some functions of the program come to, at heap level, each proved of the program itself. Words for proofs over the printed bodies: what each small operation gives on known values; heaps; slices of bytes.
  Conditions: each contract's own.
-/
import Derived.Test.YteajpfckbnfdaaaGreatDoorH4
set_option linter.all false
namespace Go.Cps
open Go Go.Proofs
set_option maxRecDepth 100000
def c12 (a0 : Value) (H : Heap) (R : Value → Heap → Prop) : Prop :=
  Get (lenV a0) fun x6 =>
  Get (arithV .gtr .i64 x6 (.int .i64 2147483647)) fun x7 =>
  Br x7 (
  R (.bool false) H) (
  Get (lenV a0) fun x9 =>
  Loop [(.int .i64 0)] H fun K1 vs2 H =>
  Get (arithV .lss .i64 (nth vs2 0) x9) fun x11 =>
  Br x11 (
  Get (elemAddrV 3 a0 (nth vs2 0)) fun x12 =>
  Get (loadNV 3 x12 H) fun x13 =>
  New (.cells #[(.string ⟨#[]⟩), (.string ⟨#[]⟩), (.slice none 0 0)] 31 (0, 0)) H fun x4 H =>
  Get (storeNV 3 x4 x13 H) fun H =>
  Get (loadNV 3 x4 H) fun x14 =>
  CallsH Tryz.prog 9 #[x14] H fun x15 H =>
  Get (unV .not x15) fun x16 =>
  Br x16 (
  R (.bool false) H) (
  Get (arithV .add .i64 (nth vs2 0) (.int .i64 1)) fun x17 =>
  K1 [x17] H)) (
  R (.bool true) H))
def p12 : Plan := .seq (.leaf []) (.seq (.seq (.leaf []) (.cond (.seq (.leaf []) (.leaf [])) (.leaf []))) (.seq (.seq (.leaf []) (.block (.loop [10] (.seq (.leaf []) (.seq (.cond (.leaf []) (.leaf [])) (.seq (.block (.seq (.leaf []) (.seq (.leaf []) (.cond (.seq (.leaf []) (.leaf [])) (.leaf []))))) (.leaf []))))))) (.seq (.leaf []) (.leaf []))))
theorem s12 {a0 : Value} {H : Heap} {R : Value → Heap → Prop} (h : c12 a0 H R) : CallsH Tryz.prog 4 #[a0] H R :=
  callsH_of_eq p12 (fn := Tryz.f4) (c := Tryz.f4.body.getD .skip) (args := [a0]) Tryz.func4 (by kernel_rfl) mixed (by kernel_rfl) (by kernel_rfl) (by kernel_rfl) h
def c40 (a0 : Value) (H : Heap) (R : Value → Heap → Prop) : Prop :=
  New (.cells (Value.cells a0) 31 (0, 0)) H fun x1 H =>
  Get (fieldAddrV 0 x1) fun x3 =>
  Get (load1V x3 H) fun x4 =>
  Get (lenStrV x4) fun x5 =>
  Get (arithV .gtr .i64 x5 (.int .i64 2147483647)) fun x6 =>
  Br x6 (
  R (.bool false) H) (
  Get (fieldAddrV 1 x1) fun x7 =>
  Get (load1V x7 H) fun x8 =>
  Get (lenStrV x8) fun x9 =>
  Get (arithV .gtr .i64 x9 (.int .i64 2147483647)) fun x10 =>
  Br x10 (
  R (.bool false) H) (
  Get (fieldAddrV 2 x1) fun x11 =>
  Get (load1V x11 H) fun x12 =>
  Get (lenV x12) fun x13 =>
  Get (arithV .gtr .i64 x13 (.int .i64 2147483647)) fun x14 =>
  Br x14 (
  R (.bool false) H) (
  R (.bool true) H)))
def p40 : Plan := .seq (.leaf []) (.seq (.seq (.leaf []) (.cond (.seq (.leaf []) (.leaf [])) (.leaf []))) (.seq (.seq (.leaf []) (.cond (.seq (.leaf []) (.leaf [])) (.leaf []))) (.seq (.seq (.leaf []) (.cond (.seq (.leaf []) (.leaf [])) (.leaf []))) (.seq (.leaf []) (.leaf [])))))
theorem s40 {a0 : Value} {H : Heap} {R : Value → Heap → Prop} (h : c40 a0 H R) : CallsH Tryz.prog 9 #[a0] H R :=
  callsH_of_eq p40 (fn := Tryz.f9) (c := Tryz.f9.body.getD .skip) (args := [a0]) Tryz.func9 (by kernel_rfl) mixed (by kernel_rfl) (by kernel_rfl) (by kernel_rfl) h
def c13 (a0 a1 : Value) (H : Heap) (R : Value → Heap → Prop) : Prop :=
  Get (lenV a0) fun x8 =>
  Loop [(.int .i64 0)] H fun K1 vs2 H =>
  Get (arithV .lss .i64 (nth vs2 0) x8) fun x10 =>
  Br x10 (
  Get (elemAddrV 3 a0 (nth vs2 0)) fun x11 =>
  Get (loadNV 3 x11 H) fun x12 =>
  New (.cells #[(.string ⟨#[]⟩), (.string ⟨#[]⟩), (.slice none 0 0)] 31 (0, 0)) H fun x6 H =>
  Get (storeNV 3 x6 x12 H) fun H =>
  Join (fun K3 =>
  Get (fieldAddrV 0 x6) fun x13 =>
  Get (load1V x13 H) fun x14 =>
  Get (lenStrV x14) fun x15 =>
  Get (arithV .gtr .i64 x15 (.int .i64 200)) fun x16 =>
  Br x16 (
  Get (pickV (.bool true) (.bool true) undef) fun x22 =>
  Br x22 (
  Get (pickV (.bool true) (.bool true) undef) fun x28 =>
  Br x28 (
  Get (pickV (.bool true) (.bool true) undef) fun x34 =>
  Br x34 (
  Get (pickV (.bool true) (.bool true) undef) fun x43 =>
  Br x43 (
  Get (pickV (.bool true) (.bool true) undef) fun x50 =>
  K3 [x50] H) (
  Get (fieldAddrV 2 x6) fun x45 =>
  Get (load1V x45 H) fun x46 =>
  CallsH Tryz.prog 12 #[x46, a1] H fun x48 H =>
  Get (unV .not x48) fun x49 =>
  Get (pickV (.bool false) (.bool true) x49) fun x50_1 =>
  K3 [x50_1] H)) (
  Get (fieldAddrV 1 x6) fun x36 =>
  Get (load1V x36 H) fun x37 =>
  ToBytes 5 x37 H fun x38 H =>
  Get (Instr.fill (fun j => some (j * 1, 1)) ((Array.range (1 * 1)).map ((#[(.int .u8 0)] : Array Value)[· % 1]!)) [(0, (.int .u8 47))]) fun cs => NewSl cs 5 1 H fun x39 H =>
  MarkS x39 H fun x40 H =>
  CallsH Tryz.prog 11 #[x38, x40] H fun x41 H =>
  Get (arithV .geq .i64 x41 (.int .i64 0)) fun x42 =>
  Get (pickV (.bool false) (.bool true) x42) fun x43_1 =>
  Br x43_1 (
  Get (pickV (.bool true) (.bool true) undef) fun x50_2 =>
  K3 [x50_2] H) (
  Get (fieldAddrV 2 x6) fun x45_1 =>
  Get (load1V x45_1 H) fun x46_1 =>
  CallsH Tryz.prog 12 #[x46_1, a1] H fun x48_1 H =>
  Get (unV .not x48_1) fun x49_1 =>
  Get (pickV (.bool false) (.bool true) x49_1) fun x50_3 =>
  K3 [x50_3] H))) (
  Get (fieldAddrV 1 x6) fun x30 =>
  Get (load1V x30 H) fun x31 =>
  CallsH Tryz.prog 10 #[x31] H fun x32 H =>
  Get (unV .not x32) fun x33 =>
  Get (pickV (.bool false) (.bool true) x33) fun x34_1 =>
  Br x34_1 (
  Get (pickV (.bool true) (.bool true) undef) fun x43_2 =>
  Br x43_2 (
  Get (pickV (.bool true) (.bool true) undef) fun x50_4 =>
  K3 [x50_4] H) (
  Get (fieldAddrV 2 x6) fun x45_2 =>
  Get (load1V x45_2 H) fun x46_2 =>
  CallsH Tryz.prog 12 #[x46_2, a1] H fun x48_2 H =>
  Get (unV .not x48_2) fun x49_2 =>
  Get (pickV (.bool false) (.bool true) x49_2) fun x50_5 =>
  K3 [x50_5] H)) (
  Get (fieldAddrV 1 x6) fun x36_1 =>
  Get (load1V x36_1 H) fun x37_1 =>
  ToBytes 5 x37_1 H fun x38_1 H =>
  Get (Instr.fill (fun j => some (j * 1, 1)) ((Array.range (1 * 1)).map ((#[(.int .u8 0)] : Array Value)[· % 1]!)) [(0, (.int .u8 47))]) fun cs => NewSl cs 5 1 H fun x39_1 H =>
  MarkS x39_1 H fun x40_1 H =>
  CallsH Tryz.prog 11 #[x38_1, x40_1] H fun x41_1 H =>
  Get (arithV .geq .i64 x41_1 (.int .i64 0)) fun x42_1 =>
  Get (pickV (.bool false) (.bool true) x42_1) fun x43_3 =>
  Br x43_3 (
  Get (pickV (.bool true) (.bool true) undef) fun x50_6 =>
  K3 [x50_6] H) (
  Get (fieldAddrV 2 x6) fun x45_3 =>
  Get (load1V x45_3 H) fun x46_3 =>
  CallsH Tryz.prog 12 #[x46_3, a1] H fun x48_3 H =>
  Get (unV .not x48_3) fun x49_3 =>
  Get (pickV (.bool false) (.bool true) x49_3) fun x50_7 =>
  K3 [x50_7] H)))) (
  Get (fieldAddrV 0 x6) fun x24 =>
  Get (load1V x24 H) fun x25 =>
  CallsH Tryz.prog 10 #[x25] H fun x26 H =>
  Get (unV .not x26) fun x27 =>
  Get (pickV (.bool false) (.bool true) x27) fun x28_1 =>
  Br x28_1 (
  Get (pickV (.bool true) (.bool true) undef) fun x34_2 =>
  Br x34_2 (
  Get (pickV (.bool true) (.bool true) undef) fun x43_4 =>
  Br x43_4 (
  Get (pickV (.bool true) (.bool true) undef) fun x50_8 =>
  K3 [x50_8] H) (
  Get (fieldAddrV 2 x6) fun x45_4 =>
  Get (load1V x45_4 H) fun x46_4 =>
  CallsH Tryz.prog 12 #[x46_4, a1] H fun x48_4 H =>
  Get (unV .not x48_4) fun x49_4 =>
  Get (pickV (.bool false) (.bool true) x49_4) fun x50_9 =>
  K3 [x50_9] H)) (
  Get (fieldAddrV 1 x6) fun x36_2 =>
  Get (load1V x36_2 H) fun x37_2 =>
  ToBytes 5 x37_2 H fun x38_2 H =>
  Get (Instr.fill (fun j => some (j * 1, 1)) ((Array.range (1 * 1)).map ((#[(.int .u8 0)] : Array Value)[· % 1]!)) [(0, (.int .u8 47))]) fun cs => NewSl cs 5 1 H fun x39_2 H =>
  MarkS x39_2 H fun x40_2 H =>
  CallsH Tryz.prog 11 #[x38_2, x40_2] H fun x41_2 H =>
  Get (arithV .geq .i64 x41_2 (.int .i64 0)) fun x42_2 =>
  Get (pickV (.bool false) (.bool true) x42_2) fun x43_5 =>
  Br x43_5 (
  Get (pickV (.bool true) (.bool true) undef) fun x50_10 =>
  K3 [x50_10] H) (
  Get (fieldAddrV 2 x6) fun x45_5 =>
  Get (load1V x45_5 H) fun x46_5 =>
  CallsH Tryz.prog 12 #[x46_5, a1] H fun x48_5 H =>
  Get (unV .not x48_5) fun x49_5 =>
  Get (pickV (.bool false) (.bool true) x49_5) fun x50_11 =>
  K3 [x50_11] H))) (
  Get (fieldAddrV 1 x6) fun x30_1 =>
  Get (load1V x30_1 H) fun x31_1 =>
  CallsH Tryz.prog 10 #[x31_1] H fun x32_1 H =>
  Get (unV .not x32_1) fun x33_1 =>
  Get (pickV (.bool false) (.bool true) x33_1) fun x34_3 =>
  Br x34_3 (
  Get (pickV (.bool true) (.bool true) undef) fun x43_6 =>
  Br x43_6 (
  Get (pickV (.bool true) (.bool true) undef) fun x50_12 =>
  K3 [x50_12] H) (
  Get (fieldAddrV 2 x6) fun x45_6 =>
  Get (load1V x45_6 H) fun x46_6 =>
  CallsH Tryz.prog 12 #[x46_6, a1] H fun x48_6 H =>
  Get (unV .not x48_6) fun x49_6 =>
  Get (pickV (.bool false) (.bool true) x49_6) fun x50_13 =>
  K3 [x50_13] H)) (
  Get (fieldAddrV 1 x6) fun x36_3 =>
  Get (load1V x36_3 H) fun x37_3 =>
  ToBytes 5 x37_3 H fun x38_3 H =>
  Get (Instr.fill (fun j => some (j * 1, 1)) ((Array.range (1 * 1)).map ((#[(.int .u8 0)] : Array Value)[· % 1]!)) [(0, (.int .u8 47))]) fun cs => NewSl cs 5 1 H fun x39_3 H =>
  MarkS x39_3 H fun x40_3 H =>
  CallsH Tryz.prog 11 #[x38_3, x40_3] H fun x41_3 H =>
  Get (arithV .geq .i64 x41_3 (.int .i64 0)) fun x42_3 =>
  Get (pickV (.bool false) (.bool true) x42_3) fun x43_7 =>
  Br x43_7 (
  Get (pickV (.bool true) (.bool true) undef) fun x50_14 =>
  K3 [x50_14] H) (
  Get (fieldAddrV 2 x6) fun x45_7 =>
  Get (load1V x45_7 H) fun x46_7 =>
  CallsH Tryz.prog 12 #[x46_7, a1] H fun x48_7 H =>
  Get (unV .not x48_7) fun x49_7 =>
  Get (pickV (.bool false) (.bool true) x49_7) fun x50_15 =>
  K3 [x50_15] H))))) (
  Get (fieldAddrV 1 x6) fun x18 =>
  Get (load1V x18 H) fun x19 =>
  Get (lenStrV x19) fun x20 =>
  Get (arithV .gtr .i64 x20 (.int .i64 200)) fun x21 =>
  Get (pickV (.bool false) (.bool true) x21) fun x22_1 =>
  Br x22_1 (
  Get (pickV (.bool true) (.bool true) undef) fun x28_2 =>
  Br x28_2 (
  Get (pickV (.bool true) (.bool true) undef) fun x34_4 =>
  Br x34_4 (
  Get (pickV (.bool true) (.bool true) undef) fun x43_8 =>
  Br x43_8 (
  Get (pickV (.bool true) (.bool true) undef) fun x50_16 =>
  K3 [x50_16] H) (
  Get (fieldAddrV 2 x6) fun x45_8 =>
  Get (load1V x45_8 H) fun x46_8 =>
  CallsH Tryz.prog 12 #[x46_8, a1] H fun x48_8 H =>
  Get (unV .not x48_8) fun x49_8 =>
  Get (pickV (.bool false) (.bool true) x49_8) fun x50_17 =>
  K3 [x50_17] H)) (
  Get (fieldAddrV 1 x6) fun x36_4 =>
  Get (load1V x36_4 H) fun x37_4 =>
  ToBytes 5 x37_4 H fun x38_4 H =>
  Get (Instr.fill (fun j => some (j * 1, 1)) ((Array.range (1 * 1)).map ((#[(.int .u8 0)] : Array Value)[· % 1]!)) [(0, (.int .u8 47))]) fun cs => NewSl cs 5 1 H fun x39_4 H =>
  MarkS x39_4 H fun x40_4 H =>
  CallsH Tryz.prog 11 #[x38_4, x40_4] H fun x41_4 H =>
  Get (arithV .geq .i64 x41_4 (.int .i64 0)) fun x42_4 =>
  Get (pickV (.bool false) (.bool true) x42_4) fun x43_9 =>
  Br x43_9 (
  Get (pickV (.bool true) (.bool true) undef) fun x50_18 =>
  K3 [x50_18] H) (
  Get (fieldAddrV 2 x6) fun x45_9 =>
  Get (load1V x45_9 H) fun x46_9 =>
  CallsH Tryz.prog 12 #[x46_9, a1] H fun x48_9 H =>
  Get (unV .not x48_9) fun x49_9 =>
  Get (pickV (.bool false) (.bool true) x49_9) fun x50_19 =>
  K3 [x50_19] H))) (
  Get (fieldAddrV 1 x6) fun x30_2 =>
  Get (load1V x30_2 H) fun x31_2 =>
  CallsH Tryz.prog 10 #[x31_2] H fun x32_2 H =>
  Get (unV .not x32_2) fun x33_2 =>
  Get (pickV (.bool false) (.bool true) x33_2) fun x34_5 =>
  Br x34_5 (
  Get (pickV (.bool true) (.bool true) undef) fun x43_10 =>
  Br x43_10 (
  Get (pickV (.bool true) (.bool true) undef) fun x50_20 =>
  K3 [x50_20] H) (
  Get (fieldAddrV 2 x6) fun x45_10 =>
  Get (load1V x45_10 H) fun x46_10 =>
  CallsH Tryz.prog 12 #[x46_10, a1] H fun x48_10 H =>
  Get (unV .not x48_10) fun x49_10 =>
  Get (pickV (.bool false) (.bool true) x49_10) fun x50_21 =>
  K3 [x50_21] H)) (
  Get (fieldAddrV 1 x6) fun x36_5 =>
  Get (load1V x36_5 H) fun x37_5 =>
  ToBytes 5 x37_5 H fun x38_5 H =>
  Get (Instr.fill (fun j => some (j * 1, 1)) ((Array.range (1 * 1)).map ((#[(.int .u8 0)] : Array Value)[· % 1]!)) [(0, (.int .u8 47))]) fun cs => NewSl cs 5 1 H fun x39_5 H =>
  MarkS x39_5 H fun x40_5 H =>
  CallsH Tryz.prog 11 #[x38_5, x40_5] H fun x41_5 H =>
  Get (arithV .geq .i64 x41_5 (.int .i64 0)) fun x42_5 =>
  Get (pickV (.bool false) (.bool true) x42_5) fun x43_11 =>
  Br x43_11 (
  Get (pickV (.bool true) (.bool true) undef) fun x50_22 =>
  K3 [x50_22] H) (
  Get (fieldAddrV 2 x6) fun x45_11 =>
  Get (load1V x45_11 H) fun x46_11 =>
  CallsH Tryz.prog 12 #[x46_11, a1] H fun x48_11 H =>
  Get (unV .not x48_11) fun x49_11 =>
  Get (pickV (.bool false) (.bool true) x49_11) fun x50_23 =>
  K3 [x50_23] H)))) (
  Get (fieldAddrV 0 x6) fun x24_1 =>
  Get (load1V x24_1 H) fun x25_1 =>
  CallsH Tryz.prog 10 #[x25_1] H fun x26_1 H =>
  Get (unV .not x26_1) fun x27_1 =>
  Get (pickV (.bool false) (.bool true) x27_1) fun x28_3 =>
  Br x28_3 (
  Get (pickV (.bool true) (.bool true) undef) fun x34_6 =>
  Br x34_6 (
  Get (pickV (.bool true) (.bool true) undef) fun x43_12 =>
  Br x43_12 (
  Get (pickV (.bool true) (.bool true) undef) fun x50_24 =>
  K3 [x50_24] H) (
  Get (fieldAddrV 2 x6) fun x45_12 =>
  Get (load1V x45_12 H) fun x46_12 =>
  CallsH Tryz.prog 12 #[x46_12, a1] H fun x48_12 H =>
  Get (unV .not x48_12) fun x49_12 =>
  Get (pickV (.bool false) (.bool true) x49_12) fun x50_25 =>
  K3 [x50_25] H)) (
  Get (fieldAddrV 1 x6) fun x36_6 =>
  Get (load1V x36_6 H) fun x37_6 =>
  ToBytes 5 x37_6 H fun x38_6 H =>
  Get (Instr.fill (fun j => some (j * 1, 1)) ((Array.range (1 * 1)).map ((#[(.int .u8 0)] : Array Value)[· % 1]!)) [(0, (.int .u8 47))]) fun cs => NewSl cs 5 1 H fun x39_6 H =>
  MarkS x39_6 H fun x40_6 H =>
  CallsH Tryz.prog 11 #[x38_6, x40_6] H fun x41_6 H =>
  Get (arithV .geq .i64 x41_6 (.int .i64 0)) fun x42_6 =>
  Get (pickV (.bool false) (.bool true) x42_6) fun x43_13 =>
  Br x43_13 (
  Get (pickV (.bool true) (.bool true) undef) fun x50_26 =>
  K3 [x50_26] H) (
  Get (fieldAddrV 2 x6) fun x45_13 =>
  Get (load1V x45_13 H) fun x46_13 =>
  CallsH Tryz.prog 12 #[x46_13, a1] H fun x48_13 H =>
  Get (unV .not x48_13) fun x49_13 =>
  Get (pickV (.bool false) (.bool true) x49_13) fun x50_27 =>
  K3 [x50_27] H))) (
  Get (fieldAddrV 1 x6) fun x30_3 =>
  Get (load1V x30_3 H) fun x31_3 =>
  CallsH Tryz.prog 10 #[x31_3] H fun x32_3 H =>
  Get (unV .not x32_3) fun x33_3 =>
  Get (pickV (.bool false) (.bool true) x33_3) fun x34_7 =>
  Br x34_7 (
  Get (pickV (.bool true) (.bool true) undef) fun x43_14 =>
  Br x43_14 (
  Get (pickV (.bool true) (.bool true) undef) fun x50_28 =>
  K3 [x50_28] H) (
  Get (fieldAddrV 2 x6) fun x45_14 =>
  Get (load1V x45_14 H) fun x46_14 =>
  CallsH Tryz.prog 12 #[x46_14, a1] H fun x48_14 H =>
  Get (unV .not x48_14) fun x49_14 =>
  Get (pickV (.bool false) (.bool true) x49_14) fun x50_29 =>
  K3 [x50_29] H)) (
  Get (fieldAddrV 1 x6) fun x36_7 =>
  Get (load1V x36_7 H) fun x37_7 =>
  ToBytes 5 x37_7 H fun x38_7 H =>
  Get (Instr.fill (fun j => some (j * 1, 1)) ((Array.range (1 * 1)).map ((#[(.int .u8 0)] : Array Value)[· % 1]!)) [(0, (.int .u8 47))]) fun cs => NewSl cs 5 1 H fun x39_7 H =>
  MarkS x39_7 H fun x40_7 H =>
  CallsH Tryz.prog 11 #[x38_7, x40_7] H fun x41_7 H =>
  Get (arithV .geq .i64 x41_7 (.int .i64 0)) fun x42_7 =>
  Get (pickV (.bool false) (.bool true) x42_7) fun x43_15 =>
  Br x43_15 (
  Get (pickV (.bool true) (.bool true) undef) fun x50_30 =>
  K3 [x50_30] H) (
  Get (fieldAddrV 2 x6) fun x45_15 =>
  Get (load1V x45_15 H) fun x46_15 =>
  CallsH Tryz.prog 12 #[x46_15, a1] H fun x48_15 H =>
  Get (unV .not x48_15) fun x49_15 =>
  Get (pickV (.bool false) (.bool true) x49_15) fun x50_31 =>
  K3 [x50_31] H)))))) fun vs4 H =>
  Br (nth vs4 0) (
  R (.bool false) H) (
  Get (arithV .add .i64 (nth vs2 0) (.int .i64 1)) fun x51 =>
  K1 [x51] H)) (
  CallsH Tryz.prog 13 #[a1] H fun x53 H =>
  R x53 H)
def p13 : Plan := .seq (.leaf []) (.seq (.seq (.leaf []) (.block (.loop [9] (.seq (.leaf []) (.seq (.cond (.leaf []) (.leaf [])) (.seq (.block (.seq (.leaf []) (.join [50] (.leaf []) (.cond (.seq (.leaf []) (.leaf [])) (.leaf []))))) (.leaf []))))))) (.seq (.leaf []) (.leaf [])))
theorem s13 {a0 a1 : Value} {H : Heap} {R : Value → Heap → Prop} (h : c13 a0 a1 H R) : CallsH Tryz.prog 5 #[a0, a1] H R :=
  callsH_of_eq p13 (fn := Tryz.f5) (c := Tryz.f5.body.getD .skip) (args := [a0, a1]) Tryz.func5 (by kernel_rfl) mixed (by kernel_rfl) (by kernel_rfl) (by kernel_rfl) h
def c41 (a0 : Value) (H : Heap) (R : Value → Heap → Prop) : Prop :=
  Loop [(.int .i64 0)] H fun K1 vs2 H =>
  Get (lenStrV a0) fun x6 =>
  Get (arithV .lss .i64 (nth vs2 0) x6) fun x7 =>
  Br x7 (
  Join (fun K3 =>
  Get (strIndexV a0 (nth vs2 0)) fun x12 =>
  Get (arithV .lss .u8 x12 (.int .u8 32)) fun x13 =>
  Br x13 (
  Get (pickV (.bool true) (.bool true) undef) fun x19 =>
  K3 [x19] H) (
  Get (strIndexV a0 (nth vs2 0)) fun x17 =>
  Get (arithV .gtr .u8 x17 (.int .u8 126)) fun x18 =>
  Get (pickV (.bool false) (.bool true) x18) fun x19_1 =>
  K3 [x19_1] H)) fun vs4 H =>
  Br (nth vs4 0) (
  R (.bool false) H) (
  Get (arithV .add .i64 (nth vs2 0) (.int .i64 1)) fun x9 =>
  K1 [x9] H)) (
  R (.bool true) H)
def p41 : Plan := .seq (.leaf []) (.seq (.seq (.leaf []) (.block (.loop [3] (.seq (.seq (.leaf []) (.cond (.leaf []) (.leaf []))) (.seq (.block (.join [19] (.leaf []) (.cond (.seq (.leaf []) (.leaf [])) (.leaf [])))) (.leaf [])))))) (.seq (.leaf []) (.leaf [])))
theorem s41 {a0 : Value} {H : Heap} {R : Value → Heap → Prop} (h : c41 a0 H R) : CallsH Tryz.prog 10 #[a0] H R :=
  callsH_of_eq p41 (fn := Tryz.f10) (c := Tryz.f10.body.getD .skip) (args := [a0]) Tryz.func10 (by kernel_rfl) mixed (by kernel_rfl) (by kernel_rfl) (by kernel_rfl) h
def c42 (a0 a1 : Value) (H : Heap) (R : Value → Heap → Prop) : Prop :=
  Loop [(.int .i64 0)] H fun K1 vs2 H =>
  Get (lenV a1) fun x8 =>
  Get (arithV .add .i64 (nth vs2 0) x8) fun x9 =>
  Get (lenV a0) fun x11 =>
  Get (arithV .leq .i64 x9 x11) fun x12 =>
  Br x12 (
  Get (sliceV 1 a0 (some (nth vs2 0)) none none) fun x17 =>
  CallsH Tryz.prog 28 #[x17, a1] H fun x19 H =>
  Br x19 (
  R (nth vs2 0) H) (
  Get (arithV .add .i64 (nth vs2 0) (.int .i64 1)) fun x14 =>
  K1 [x14] H)) (
  R (.int .i64 (-1)) H)
def p42 : Plan := .seq (.leaf []) (.seq (.seq (.leaf []) (.block (.loop [5] (.seq (.seq (.leaf []) (.cond (.leaf []) (.leaf []))) (.seq (.block (.seq (.leaf []) (.cond (.seq (.leaf []) (.leaf [])) (.leaf [])))) (.leaf [])))))) (.seq (.leaf []) (.leaf [])))
theorem s42 {a0 a1 : Value} {H : Heap} {R : Value → Heap → Prop} (h : c42 a0 a1 H R) : CallsH Tryz.prog 11 #[a0, a1] H R :=
  callsH_of_eq p42 (fn := Tryz.f11) (c := Tryz.f11.body.getD .skip) (args := [a0, a1]) Tryz.func11 (by kernel_rfl) mixed (by kernel_rfl) (by kernel_rfl) (by kernel_rfl) h
def c25 (a0 a1 : Value) (H : Heap) (R : Value → Heap → Prop) : Prop :=
  Get (strV .add (.string ⟨#[45, 45]⟩) a1) fun x7 =>
  ToBytes 5 x7 H fun x8 H =>
  Join (fun K1 =>
  CallsH Tryz.prog 28 #[a0, x8] H fun x11 H =>
  Get (unV .not x11) fun x12 =>
  Br x12 (
  Get (Instr.fill (fun j => some (j * 1, 1)) ((Array.range (1 * 1)).map ((#[(.int .u8 0)] : Array Value)[· % 1]!)) [(0, (.int .u8 10))]) fun cs => NewSl cs 5 1 H fun x15 H =>
  Append 5 1 1 #[(.int .u8 0)] x15 x8 H fun x17 H =>
  CallsH Tryz.prog 11 #[a0, x17] H fun x18 H =>
  Get (arithV .lss .i64 x18 (.int .i64 0)) fun x19 =>
  Get (pickV (.bool true) x19 (.bool false)) fun x20 =>
  K1 [x20] H) (
  Get (pickV (.bool false) undef (.bool false)) fun x20_1 =>
  K1 [x20_1] H)) fun vs2 H =>
  R (nth vs2 0) H
def p25 : Plan := .seq (.leaf []) (.seq (.leaf []) (.join [4] (.leaf []) (.leaf [])))
theorem s25 {a0 a1 : Value} {H : Heap} {R : Value → Heap → Prop} (h : c25 a0 a1 H R) : CallsH Tryz.prog 12 #[a0, a1] H R :=
  callsH_of_eq p25 (fn := Tryz.f12) (c := Tryz.f12.body.getD .skip) (args := [a0, a1]) Tryz.func12 (by kernel_rfl) mixed (by kernel_rfl) (by kernel_rfl) (by kernel_rfl) h
end Go.Cps
namespace Go.Cps
open Go Go.Proofs
theorem Q3 {α : Type} {l : List α} {i : Nat} : l.toArray[i]? = l[i]? := List.getElem?_toArray
theorem Q4 {α : Type} {a : α} {l : List α} {i : Nat} : (a :: l)[i + 1]? = l[i]? := List.getElem?_cons_succ
theorem Q5 {α : Type} {a : α} {l : List α} : (a :: l)[0]? = some a := List.getElem?_cons_zero
theorem Qt {α : Type} {l : List α} {i : Nat} {a : α} : l.toArray.setIfInBounds i a = (l.set i a).toArray := List.setIfInBounds_toArray _ _ _
theorem Qu {α : Type} {a b : α} {l : List α} {i : Nat} : (b :: l).set (i + 1) a = b :: l.set i a := List.set_cons_succ
theorem Qv {α : Type} {a b : α} {l : List α} : (b :: l).set 0 a = a :: l := List.set_cons_zero
theorem Q2 (n : Nat) : 0 + n = n := Nat.zero_add n
section basic
variable {α : Type} {K : Value → Prop} {H : Heap}
@[simp] theorem Q6 (v : α) (K : α → Prop) : Get (some v) K = K v := by simp [Get]
@[simp] theorem Get_none (K : α → Prop) : Get none K = False := by simp [Get]
@[simp] theorem Q7 (A B : Prop) : Br (.bool true) A B = A := by simp [Br]
@[simp] theorem Q8 (A B : Prop) : Br (.bool false) A B = B := by simp [Br]
theorem Br_intro {b : Bool} {A B : Prop} (h1 : b = true → A) (h2 : b = false → B) : Br (.bool b) A B := ⟨b, rfl, h1, h2⟩
@[simp] theorem Q1 (b o n : Nat) : (⟨b, o, none⟩ : Addr).add n = ⟨b, o + n, none⟩ := by
  unfold Addr.add
  split
  · rename_i h; subst h; rfl
  · rfl
@[simp] theorem Qe (a : Addr) : nilV (.pointer (some a)) = some (.pointer (some a)) := rfl
@[simp] theorem nilV_iface (t : TypeId) (v : Value) : nilV (.iface t v) = some (.iface t v) := rfl
@[simp] theorem Qd (n : Nat) (a : Addr) : fieldAddrV n (.pointer (some a)) = some (.pointer (some (a.add n))) := rfl
@[simp] theorem Qf (a : Addr) (H : Heap) : load1V (.pointer (some a)) H = cellH H a := rfl
@[simp] theorem Q0 (n : Nat) (a : Addr) (H : Heap) (K : Value → Prop) : Fld n (.pointer (some a)) H K = Get (cellH H (a.add n)) K := by simp [Fld]
theorem cellH_of {b : Nat} {cs : Array Value} {t : TypeId} {f : Nat × Nat} (h : H[b]? = some (.cells cs t f)) (o : Nat) : cellH H ⟨b, o, none⟩ = cs[o]? := by simp [cellH, h]
@[simp] theorem Qg (t : Bool) (x y : Value) : pickV (.bool t) x y = some (if t then x else y) := rfl
@[simp] theorem Qh (b : Bool) : unV .not (.bool b) = some (.bool !b) := rfl
@[simp] theorem Qc (vs : Array Value) (i : Nat) : extractV (.tuple vs) i = vs[i]? := rfl
@[simp] theorem Qi (a : Option Addr) (n c : Nat) : lenV (.slice a n c) = some (.int .i64 n) := rfl
@[simp] theorem lenStrV_string (s : ByteArray) : lenStrV (.string s) = some (.int .i64 s.size) := rfl
@[simp] theorem Qj (a : Option Addr) (n c : Nat) : capV (.slice a n c) = some (.int .i64 c) := rfl
@[simp] theorem Q9 (v : Value) (r : List Value) : nth (v :: r) 0 = v := rfl
@[simp] theorem nth_succ (v : Value) (r : List Value) (i : Nat) : nth (v :: r) (i + 1) = nth r i := rfl
@[simp] theorem Qa (u v : Value) (r : List Value) : nth (u :: v :: r) 1 = v := rfl
@[simp] theorem Qb (u v w : Value) (r : List Value) : nth (u :: v :: w :: r) 2 = w := rfl
@[simp] theorem nth_three (u v w x : Value) (r : List Value) : nth (u :: v :: w :: x :: r) 3 = x := rfl
@[simp] theorem nth_four (u v w x y : Value) (r : List Value) : nth (u :: v :: w :: x :: y :: r) 4 = y := rfl
@[simp] theorem Qk (k : IntKind) (a b : Int) : arithV .add k (.int k a) (.int k b) = some (.int k (k.wrap (a + b))) := by simp [arithV]
@[simp] theorem Ql (k : IntKind) (a b : Int) : arithV .sub k (.int k a) (.int k b) = some (.int k (k.wrap (a - b))) := by simp [arithV]
@[simp] theorem arithV_mul (k : IntKind) (a b : Int) : arithV .mul k (.int k a) (.int k b) = some (.int k (k.wrap (a * b))) := by simp [arithV]
@[simp] theorem Qm (k : IntKind) (a b : Int) : arithV .eql k (.int k a) (.int k b) = some (.bool (a == b)) := by simp [arithV]
@[simp] theorem Qn (k : IntKind) (a b : Int) : arithV .neq k (.int k a) (.int k b) = some (.bool (a != b)) := by simp [arithV]
@[simp] theorem Qo (k : IntKind) (a b : Int) : arithV .lss k (.int k a) (.int k b) = some (.bool (a < b)) := by simp [arithV]
@[simp] theorem Qp (k : IntKind) (a b : Int) : arithV .leq k (.int k a) (.int k b) = some (.bool (a ≤ b)) := by simp [arithV]
@[simp] theorem Qq (k : IntKind) (a b : Int) : arithV .gtr k (.int k a) (.int k b) = some (.bool (a > b)) := by simp [arithV]
@[simp] theorem Qr (k : IntKind) (a b : Int) : arithV .geq k (.int k a) (.int k b) = some (.bool (a ≥ b)) := by simp [arithV]
@[simp] theorem nilV2_eql_nil : nilV2 .eql .nilIface .nilIface = some (.bool true) := rfl
@[simp] theorem nilV2_neq_nil : nilV2 .neq .nilIface .nilIface = some (.bool false) := rfl
@[simp] theorem nilV2_eql_iface (t : TypeId) (v : Value) : nilV2 .eql .nilIface (.iface t v) = some (.bool false) := rfl
@[simp] theorem nilV2_neq_iface (t : TypeId) (v : Value) : nilV2 .neq .nilIface (.iface t v) = some (.bool true) := rfl
@[simp] theorem nilV2_eql_ptr (p : Option Addr) : nilV2 .eql (.pointer none) (.pointer p) = some (.bool p.isNone) := rfl
@[simp] theorem nilV2_neq_ptr (p : Option Addr) : nilV2 .neq (.pointer none) (.pointer p) = some (.bool !p.isNone) := rfl
@[simp] theorem nilV2_eql_slice (p : Option Addr) (n c : Nat) : nilV2 .eql (.slice none 0 0) (.slice p n c) = some (.bool p.isNone) := rfl
@[simp] theorem nilV2_neq_slice (p : Option Addr) (n c : Nat) : nilV2 .neq (.slice none 0 0) (.slice p n c) = some (.bool !p.isNone) := rfl
@[simp] theorem strV_eql (a b : ByteArray) : strV .eql (.string a) (.string b) = some (.bool (a.toList == b.toList)) := rfl
@[simp] theorem Qs (k k' : IntKind) (n : Int) : intConvV k (.int k' n) = some (.int k (k.wrap n)) := rfl
end basic
theorem elemAddr_of {b o n c size : Nat} {k : IntKind} {i : Int} (h0 : 0 ≤ i) (h : i < (n : Int)) : elemAddrV size (.slice (some ⟨b, o, none⟩) n c) (.int k i) = some (.pointer (some ⟨b, o + i.toNat * size, none⟩)) := by
  simp [elemAddrV, h0, h]
def upd (H : Heap) (b : Nat) (o : Obj) : Heap := H.setIfInBounds b o
@[simp] theorem upd_size (H : Heap) (b : Nat) (o : Obj) : (upd H b o).size = H.size := by simp [upd]
theorem upd_same {H : Heap} {b : Nat} {o : Obj} (h : b < H.size) : (upd H b o)[b]? = some o := by simp [upd, h]
theorem upd_ne {H : Heap} {b c : Nat} {o : Obj} (h : b ≠ c) : (upd H b o)[c]? = H[c]? := by simp [upd, Array.getElem?_setIfInBounds_ne h]
theorem lt_of_some {H : Heap} {b : Nat} {o : Obj} (h : H[b]? = some o) : b < H.size := (Array.getElem?_eq_some_iff.1 h).1
structure Frm (S : List Nat) (H H' : Heap) : Prop where
  size : H.size ≤ H'.size
  same : ∀ k, k < H.size → k ∉ S → H'[k]? = H[k]?
theorem Frm.refl (S : List Nat) (H : Heap) : Frm S H H := ⟨Nat.le_refl _, fun _ _ _ => rfl⟩
theorem Frm.trans {S : List Nat} {a b c : Heap} (h : Frm S a b) (k : Frm S b c) : Frm S a c :=
  ⟨Nat.le_trans h.size k.size, fun i hi hs => (k.same i (Nat.lt_of_lt_of_le hi h.size) hs).trans (h.same i hi hs)⟩
theorem Frm.mono {S S' : List Nat} {a b : Heap} (h : Frm S a b) (hs : ∀ x ∈ S, x ∈ S') : Frm S' a b := ⟨h.size, fun k hk hk' => h.same k hk (fun hx => hk' (hs k hx))⟩
theorem Frm.get {S : List Nat} {H H' : Heap} (h : Frm S H H') {b : Nat} {o : Obj} (hb : H[b]? = some o) (hs : b ∉ S) : H'[b]? = some o := (h.same b (lt_of_some hb) hs).trans hb
theorem Frm.push (S : List Nat) (H : Heap) (o : Obj) : Frm S H (H.push o) := ⟨by simp, fun k hk _ => by rw [Array.getElem?_push]; rw [if_neg (by omega)]⟩
theorem Frm.upd {S : List Nat} {H : Heap} {b : Nat} (o : Obj) (hb : b ∈ S) : Frm S H (upd H b o) := ⟨by simp, fun k _ hk => upd_ne (fun e => hk (e ▸ hb))⟩
theorem push_same (H : Heap) (o : Obj) : (H.push o)[H.size]? = some o := by simp
theorem push_old {H : Heap} {o x : Obj} {b : Nat} (h : H[b]? = some x) : (H.push o)[b]? = some x := by
  rw [Array.getElem?_push, if_neg (by have := lt_of_some h; omega)]; exact h
theorem setH_eq_upd {H : Heap} {b o : Nat} {cs : Array Value} {t : TypeId} {f : Nat × Nat} (h : H[b]? = some (.cells cs t f)) (v : Value) : setH H ⟨b, o, none⟩ v = upd H b (.cells (cs.setIfInBounds o v) t f) := by
  apply Array.ext_getElem?
  intro k
  simp only [setH, upd, Array.getElem?_modify, Array.getElem?_setIfInBounds]
  by_cases hk : b = k
  · subst hk
    rw [if_pos rfl, if_pos rfl, if_pos (lt_of_some h), h]
    rfl
  · rw [if_neg hk, if_neg hk]
theorem store1V_of {H : Heap} {b o : Nat} {cs : Array Value} {t : TypeId} (h : H[b]? = some (.cells cs t (0, 0))) (ho : o < cs.size) {v : Value} (hv : isOne v = true) :
    store1V (.pointer (some ⟨b, o, none⟩)) v H = some (upd H b (.cells (cs.setIfInBounds o v) t (0, 0))) := by
  have h1 : (cellH H ⟨b, o, none⟩).isSome = true := by rw [cellH_of h]; simp [ho]
  have h2 : frozenH H ⟨b, o, none⟩ = false := by simp [frozenH, h]
  simp [store1V, storesH, hv, h1, h2, setH_eq_upd h]
def byteV (b : UInt8) : Value := .int .u8 b.toNat
theorem toByte_byteV (b : UInt8) : toByte? (byteV b) = some b := by simp [toByte?, byteV]
theorem bytesOfCells_map : ∀ (l : List UInt8), bytesOfCells (l.map byteV) = some l
  | [] => rfl
  | b :: r => by simp [bytesOfCells, toByte_byteV, bytesOfCells_map r]
theorem cellsH_getElem {H : Heap} {b o : Nat} : ∀ (n i : Nat) (l : List Value), cellsH H ⟨b, o, none⟩ i n = some l ↔ l.length = n ∧ ∀ j, j < n → cellH H ⟨b, o + (i + j), none⟩ = l[j]?
  | 0, i, l => by
    simp only [cellsH, Option.some.injEq]
    constructor
    · rintro rfl; exact ⟨rfl, fun j hj => by omega⟩
    · intro h; exact (List.eq_nil_of_length_eq_zero h.1).symm
  | n + 1, i, l => by
    simp only [cellsH, Q1]
    constructor
    · intro h
      split at h <;> try contradiction
      rename_i v hv
      cases hr : cellsH H ⟨b, o, none⟩ (i + 1) n with
      | none => simp [hr] at h
      | some r =>
        simp only [hr, Option.map_some, Option.some.injEq] at h
        subst h
        obtain ⟨h1, h2⟩ := (cellsH_getElem n (i + 1) r).1 hr
        refine ⟨by simp [h1], fun j hj => ?_⟩
        cases j with
        | zero => simpa using hv
        | succ j =>
          have := h2 j (by omega)
          rw [show o + (i + (j + 1)) = o + (i + 1 + j) by omega, this]
          simp
    · rintro ⟨h1, h2⟩
      cases l with
      | nil => simp at h1
      | cons v r =>
        have h0 := h2 0 (by omega)
        simp only [Nat.add_zero, List.getElem?_cons_zero] at h0
        rw [h0]
        simp only []
        have hr : cellsH H ⟨b, o, none⟩ (i + 1) n = some r := (cellsH_getElem n (i + 1) r).2 ⟨by simpa using h1, fun j hj => by
          have := h2 (j + 1) (by omega)
          rw [show o + (i + 1 + j) = o + (i + (j + 1)) by omega, this]
          simp⟩
        rw [hr]
        rfl
def IsBytes (H : Heap) (v : Value) (l : List UInt8) : Prop :=
  (∃ b o c, v = .slice (some ⟨b, o, none⟩) l.length c ∧ l.length ≤ c ∧ ∀ j, j < l.length → cellH H ⟨b, o + j, none⟩ = (l[j]?).map byteV) ∨ (∃ a, v = .slice a 0 0 ∧ l = [])
theorem IsBytes.str {H : Heap} {v : Value} {l : List UInt8} (h : IsBytes H v l) : bytesV v H = some (.string ⟨l.toArray⟩) := by
  rcases h with ⟨b, o, c, rfl, _, hc⟩ | ⟨a, rfl, rfl⟩
  · have : cellsH H ⟨b, o, none⟩ 0 l.length = some (l.map byteV) := (cellsH_getElem _ _ _).2 ⟨by simp, fun j hj => by rw [Nat.zero_add, hc j hj]; simp⟩
    simp [bytesV, this, bytesOfCells_map]
  · cases a <;> rfl
theorem IsBytes.len {H : Heap} {v : Value} {l : List UInt8} (h : IsBytes H v l) : lenV v = some (.int .i64 l.length) := by
  rcases h with ⟨b, o, c, rfl, _, _⟩ | ⟨a, rfl, rfl⟩ <;> rfl
theorem IsBytes.cast {H H' : Heap} {v : Value} {l : List UInt8} (h : IsBytes H v l) (hk : ∀ b o c, v = .slice (some ⟨b, o, none⟩) l.length c → H'[b]? = H[b]?) : IsBytes H' v l := by
  rcases h with ⟨b, o, c, rfl, h1, h2⟩ | ⟨a, rfl, rfl⟩
  · refine .inl ⟨b, o, c, rfl, h1, fun j hj => ?_⟩
    rw [← h2 j hj]
    simp [cellH, hk b o c rfl]
  · exact .inr ⟨a, rfl, rfl⟩
theorem IsBytes.sub {H : Heap} {b o n c : Nat} {l : List UInt8} (h : IsBytes H (.slice (some ⟨b, o, none⟩) n c) l) {lo hi : Nat} (h1 : lo ≤ hi) (h2 : hi ≤ l.length) :
    IsBytes H (.slice (some (if c = lo then ⟨b, o, none⟩ else ⟨b, o + lo, none⟩)) (hi - lo) (c - lo)) ((l.take hi).drop lo) := by
  rcases h with ⟨b', o', c', he, hc, hcell⟩ | ⟨a, he, hl⟩
  · cases he
    have hlen : ((l.take hi).drop lo).length = hi - lo := by simp; omega
    by_cases hcl : c = lo
    · rw [if_pos hcl]
      refine .inl ⟨b, o, c - lo, by rw [hlen], by rw [hlen]; omega, fun j hj => by rw [hlen] at hj; omega⟩
    · rw [if_neg hcl]
      refine .inl ⟨b, o + lo, c - lo, by rw [hlen], by rw [hlen]; omega, fun j hj => ?_⟩
      rw [hlen] at hj
      rw [Nat.add_assoc, hcell (lo + j) (by omega)]
      rw [List.getElem?_drop, List.getElem?_take, if_pos (by omega)]
  · cases he
    subst hl
    obtain rfl : hi = 0 := by simpa using h2
    obtain rfl : lo = 0 := by omega
    exact .inr ⟨_, rfl, rfl⟩
theorem sliceV_of {a : Option Addr} {n c size : Nat} {lo hi : Nat} (h1 : lo ≤ hi) (h2 : hi ≤ c) (k k' : IntKind) : sliceV size (.slice a n c) (some (.int k lo)) (some (.int k' hi)) none = some (.slice (if c = lo then a else a.map (·.add (lo * size))) (hi - lo) (c - lo)) := by
  have e1 : boundV (some (.int k' hi)) n c = some hi := by simp [boundV]; omega
  have e2 : boundV (some (.int k lo)) 0 hi = some lo := by simp [boundV]; omega
  have e0 : boundV none c c = some c := rfl
  simp [sliceV, boundsV, e0, e1, e2]
theorem sliceV_lo {a : Option Addr} {n c size : Nat} {lo : Nat} (h1 : lo ≤ n) (k : IntKind) : sliceV size (.slice a n c) (some (.int k lo)) none none = some (.slice (if c = lo then a else a.map (·.add (lo * size))) (n - lo) (c - lo)) := by
  have e1 : boundV none n c = some n := rfl
  have e2 : boundV (some (.int k lo)) 0 n = some lo := by simp [boundV]; omega
  have e0 : boundV none c c = some c := rfl
  simp [sliceV, boundsV, e0, e1, e2]
theorem sliceV_hi {a : Option Addr} {n c size : Nat} {hi : Nat} (h2 : hi ≤ c) (k : IntKind) : sliceV size (.slice a n c) none (some (.int k hi)) none = some (.slice a hi c) := by
  have e1 : boundV (some (.int k hi)) n c = some hi := by simp [boundV]; omega
  have e2 : boundV none 0 hi = some 0 := rfl
  have e0 : boundV none c c = some c := rfl
  simp only [sliceV, boundsV, e0, e1, e2, Nat.zero_mul, Nat.sub_zero, Option.some.injEq, Value.slice.injEq, and_true]
  split
  · rfl
  · cases a with
    | none => rfl
    | some a => simp [Addr.add]
end Go.Cps
