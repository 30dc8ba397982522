/-
  A part of the proof (its texts: GD): each text says below what it proves.
  Conditions: each contract's own.
-/
import Derived.Test.YtfajmapajpfocaaGreatDoorB5
set_option linter.all false
/-
  What the bodies of some functions of the program come to, at heap level, each proved of the program itself.
  Conditions: none. Written by gen.py.
-/
namespace Go.Cps
open Go Go.Proofs
set_option maxRecDepth 100000

/-- laws.zzFits7 -/
def c12 (a0 : Value) (H : Heap) (R : Value → Heap → Prop) : Prop :=
  Get (lenV a0) fun x6 =>
  Get (arithV .gtr .i64 x6 (.int .i64 2147483647)) fun x7 =>
  Br x7 (
  R (.bool false) H) (
  Get (lenV a0) fun x9 =>
  Loop [(.int .i64 0)] H fun K1 vs2 H =>
  Get (arithV .lss .i64 (nth vs2 0) x9) fun x11 =>
  Br x11 (
  Get (elemAddrV 3 a0 (nth vs2 0)) fun x12 =>
  Get (loadNV 3 x12 H) fun x13 =>
  New (.cells #[(.string ⟨#[]⟩), (.string ⟨#[]⟩), (.slice none 0 0)] 80 (0, 0)) H fun x4 H =>
  Get (storeNV 3 x4 x13 H) fun H =>
  Get (loadNV 3 x4 H) fun x14 =>
  CallsH Tryz.prog 40 #[x14] H fun x15 H =>
  Get (unV .not x15) fun x16 =>
  Br x16 (
  R (.bool false) H) (
  Get (arithV .add .i64 (nth vs2 0) (.int .i64 1)) fun x17 =>
  K1 [x17] H)) (
  R (.bool true) H))
def p12 : Plan := .seq (.leaf []) (.seq (.seq (.leaf []) (.cond (.seq (.leaf []) (.leaf [])) (.leaf []))) (.seq (.seq (.leaf []) (.block (.loop [10] (.seq (.leaf []) (.seq (.cond (.leaf []) (.leaf [])) (.seq (.block (.seq (.leaf []) (.seq (.leaf []) (.cond (.seq (.leaf []) (.leaf [])) (.leaf []))))) (.leaf []))))))) (.seq (.leaf []) (.leaf []))))
theorem s12 {a0 : Value} {H : Heap} {R : Value → Heap → Prop} (h : c12 a0 H R) : CallsH Tryz.prog 12 #[a0] H R :=
  callsH_of_eq p12 (fn := Tryz.f12) (c := Tryz.f12.body.getD .skip) (args := [a0]) Tryz.func12 (by kernel_rfl) mixed (by kernel_rfl) (by kernel_rfl) (by kernel_rfl) h

/-- laws.zzFits8 -/
def c40 (a0 : Value) (H : Heap) (R : Value → Heap → Prop) : Prop :=
  New (.cells (Value.cells a0) 80 (0, 0)) H fun x1 H =>
  Get (fieldAddrV 0 x1) fun x3 =>
  Get (load1V x3 H) fun x4 =>
  Get (lenStrV x4) fun x5 =>
  Get (arithV .gtr .i64 x5 (.int .i64 2147483647)) fun x6 =>
  Br x6 (
  R (.bool false) H) (
  Get (fieldAddrV 1 x1) fun x7 =>
  Get (load1V x7 H) fun x8 =>
  Get (lenStrV x8) fun x9 =>
  Get (arithV .gtr .i64 x9 (.int .i64 2147483647)) fun x10 =>
  Br x10 (
  R (.bool false) H) (
  Get (fieldAddrV 2 x1) fun x11 =>
  Get (load1V x11 H) fun x12 =>
  Get (lenV x12) fun x13 =>
  Get (arithV .gtr .i64 x13 (.int .i64 2147483647)) fun x14 =>
  Br x14 (
  R (.bool false) H) (
  R (.bool true) H)))
def p40 : Plan := .seq (.leaf []) (.seq (.seq (.leaf []) (.cond (.seq (.leaf []) (.leaf [])) (.leaf []))) (.seq (.seq (.leaf []) (.cond (.seq (.leaf []) (.leaf [])) (.leaf []))) (.seq (.seq (.leaf []) (.cond (.seq (.leaf []) (.leaf [])) (.leaf []))) (.seq (.leaf []) (.leaf [])))))
theorem s40 {a0 : Value} {H : Heap} {R : Value → Heap → Prop} (h : c40 a0 H R) : CallsH Tryz.prog 40 #[a0] H R :=
  callsH_of_eq p40 (fn := Tryz.f40) (c := Tryz.f40.body.getD .skip) (args := [a0]) Tryz.func40 (by kernel_rfl) mixed (by kernel_rfl) (by kernel_rfl) (by kernel_rfl) h

/-- spec.Fields -/
def c13 (a0 a1 : Value) (H : Heap) (R : Value → Heap → Prop) : Prop :=
  Get (lenV a0) fun x8 =>
  Loop [(.int .i64 0)] H fun K1 vs2 H =>
  Get (arithV .lss .i64 (nth vs2 0) x8) fun x10 =>
  Br x10 (
  Get (elemAddrV 3 a0 (nth vs2 0)) fun x11 =>
  Get (loadNV 3 x11 H) fun x12 =>
  New (.cells #[(.string ⟨#[]⟩), (.string ⟨#[]⟩), (.slice none 0 0)] 80 (0, 0)) H fun x6 H =>
  Get (storeNV 3 x6 x12 H) fun H =>
  Join (fun K3 =>
  Get (fieldAddrV 0 x6) fun x13 =>
  Get (load1V x13 H) fun x14 =>
  Get (lenStrV x14) fun x15 =>
  Get (arithV .gtr .i64 x15 (.int .i64 200)) fun x16 =>
  Br x16 (
  Get (pickV (.bool true) (.bool true) undef) fun x22 =>
  Br x22 (
  Get (pickV (.bool true) (.bool true) undef) fun x28 =>
  Br x28 (
  Get (pickV (.bool true) (.bool true) undef) fun x34 =>
  Br x34 (
  Get (pickV (.bool true) (.bool true) undef) fun x43 =>
  Br x43 (
  Get (pickV (.bool true) (.bool true) undef) fun x50 =>
  K3 [x50] H) (
  Get (fieldAddrV 2 x6) fun x45 =>
  Get (load1V x45 H) fun x46 =>
  CallsH Tryz.prog 25 #[x46, a1] H fun x48 H =>
  Get (unV .not x48) fun x49 =>
  Get (pickV (.bool false) (.bool true) x49) fun x50_1 =>
  K3 [x50_1] H)) (
  Get (fieldAddrV 1 x6) fun x36 =>
  Get (load1V x36 H) fun x37 =>
  ToBytes 5 x37 H fun x38 H =>
  Get (Instr.fill (fun j => some (j * 1, 1)) ((Array.range (1 * 1)).map ((#[(.int .u8 0)] : Array Value)[· % 1]!)) [(0, (.int .u8 47))]) fun cs => NewSl cs 5 1 H fun x39 H =>
  MarkS x39 H fun x40 H =>
  CallsH Tryz.prog 42 #[x38, x40] H fun x41 H =>
  Get (arithV .geq .i64 x41 (.int .i64 0)) fun x42 =>
  Get (pickV (.bool false) (.bool true) x42) fun x43_1 =>
  Br x43_1 (
  Get (pickV (.bool true) (.bool true) undef) fun x50_2 =>
  K3 [x50_2] H) (
  Get (fieldAddrV 2 x6) fun x45_1 =>
  Get (load1V x45_1 H) fun x46_1 =>
  CallsH Tryz.prog 25 #[x46_1, a1] H fun x48_1 H =>
  Get (unV .not x48_1) fun x49_1 =>
  Get (pickV (.bool false) (.bool true) x49_1) fun x50_3 =>
  K3 [x50_3] H))) (
  Get (fieldAddrV 1 x6) fun x30 =>
  Get (load1V x30 H) fun x31 =>
  CallsH Tryz.prog 41 #[x31] H fun x32 H =>
  Get (unV .not x32) fun x33 =>
  Get (pickV (.bool false) (.bool true) x33) fun x34_1 =>
  Br x34_1 (
  Get (pickV (.bool true) (.bool true) undef) fun x43_2 =>
  Br x43_2 (
  Get (pickV (.bool true) (.bool true) undef) fun x50_4 =>
  K3 [x50_4] H) (
  Get (fieldAddrV 2 x6) fun x45_2 =>
  Get (load1V x45_2 H) fun x46_2 =>
  CallsH Tryz.prog 25 #[x46_2, a1] H fun x48_2 H =>
  Get (unV .not x48_2) fun x49_2 =>
  Get (pickV (.bool false) (.bool true) x49_2) fun x50_5 =>
  K3 [x50_5] H)) (
  Get (fieldAddrV 1 x6) fun x36_1 =>
  Get (load1V x36_1 H) fun x37_1 =>
  ToBytes 5 x37_1 H fun x38_1 H =>
  Get (Instr.fill (fun j => some (j * 1, 1)) ((Array.range (1 * 1)).map ((#[(.int .u8 0)] : Array Value)[· % 1]!)) [(0, (.int .u8 47))]) fun cs => NewSl cs 5 1 H fun x39_1 H =>
  MarkS x39_1 H fun x40_1 H =>
  CallsH Tryz.prog 42 #[x38_1, x40_1] H fun x41_1 H =>
  Get (arithV .geq .i64 x41_1 (.int .i64 0)) fun x42_1 =>
  Get (pickV (.bool false) (.bool true) x42_1) fun x43_3 =>
  Br x43_3 (
  Get (pickV (.bool true) (.bool true) undef) fun x50_6 =>
  K3 [x50_6] H) (
  Get (fieldAddrV 2 x6) fun x45_3 =>
  Get (load1V x45_3 H) fun x46_3 =>
  CallsH Tryz.prog 25 #[x46_3, a1] H fun x48_3 H =>
  Get (unV .not x48_3) fun x49_3 =>
  Get (pickV (.bool false) (.bool true) x49_3) fun x50_7 =>
  K3 [x50_7] H)))) (
  Get (fieldAddrV 0 x6) fun x24 =>
  Get (load1V x24 H) fun x25 =>
  CallsH Tryz.prog 41 #[x25] H fun x26 H =>
  Get (unV .not x26) fun x27 =>
  Get (pickV (.bool false) (.bool true) x27) fun x28_1 =>
  Br x28_1 (
  Get (pickV (.bool true) (.bool true) undef) fun x34_2 =>
  Br x34_2 (
  Get (pickV (.bool true) (.bool true) undef) fun x43_4 =>
  Br x43_4 (
  Get (pickV (.bool true) (.bool true) undef) fun x50_8 =>
  K3 [x50_8] H) (
  Get (fieldAddrV 2 x6) fun x45_4 =>
  Get (load1V x45_4 H) fun x46_4 =>
  CallsH Tryz.prog 25 #[x46_4, a1] H fun x48_4 H =>
  Get (unV .not x48_4) fun x49_4 =>
  Get (pickV (.bool false) (.bool true) x49_4) fun x50_9 =>
  K3 [x50_9] H)) (
  Get (fieldAddrV 1 x6) fun x36_2 =>
  Get (load1V x36_2 H) fun x37_2 =>
  ToBytes 5 x37_2 H fun x38_2 H =>
  Get (Instr.fill (fun j => some (j * 1, 1)) ((Array.range (1 * 1)).map ((#[(.int .u8 0)] : Array Value)[· % 1]!)) [(0, (.int .u8 47))]) fun cs => NewSl cs 5 1 H fun x39_2 H =>
  MarkS x39_2 H fun x40_2 H =>
  CallsH Tryz.prog 42 #[x38_2, x40_2] H fun x41_2 H =>
  Get (arithV .geq .i64 x41_2 (.int .i64 0)) fun x42_2 =>
  Get (pickV (.bool false) (.bool true) x42_2) fun x43_5 =>
  Br x43_5 (
  Get (pickV (.bool true) (.bool true) undef) fun x50_10 =>
  K3 [x50_10] H) (
  Get (fieldAddrV 2 x6) fun x45_5 =>
  Get (load1V x45_5 H) fun x46_5 =>
  CallsH Tryz.prog 25 #[x46_5, a1] H fun x48_5 H =>
  Get (unV .not x48_5) fun x49_5 =>
  Get (pickV (.bool false) (.bool true) x49_5) fun x50_11 =>
  K3 [x50_11] H))) (
  Get (fieldAddrV 1 x6) fun x30_1 =>
  Get (load1V x30_1 H) fun x31_1 =>
  CallsH Tryz.prog 41 #[x31_1] H fun x32_1 H =>
  Get (unV .not x32_1) fun x33_1 =>
  Get (pickV (.bool false) (.bool true) x33_1) fun x34_3 =>
  Br x34_3 (
  Get (pickV (.bool true) (.bool true) undef) fun x43_6 =>
  Br x43_6 (
  Get (pickV (.bool true) (.bool true) undef) fun x50_12 =>
  K3 [x50_12] H) (
  Get (fieldAddrV 2 x6) fun x45_6 =>
  Get (load1V x45_6 H) fun x46_6 =>
  CallsH Tryz.prog 25 #[x46_6, a1] H fun x48_6 H =>
  Get (unV .not x48_6) fun x49_6 =>
  Get (pickV (.bool false) (.bool true) x49_6) fun x50_13 =>
  K3 [x50_13] H)) (
  Get (fieldAddrV 1 x6) fun x36_3 =>
  Get (load1V x36_3 H) fun x37_3 =>
  ToBytes 5 x37_3 H fun x38_3 H =>
  Get (Instr.fill (fun j => some (j * 1, 1)) ((Array.range (1 * 1)).map ((#[(.int .u8 0)] : Array Value)[· % 1]!)) [(0, (.int .u8 47))]) fun cs => NewSl cs 5 1 H fun x39_3 H =>
  MarkS x39_3 H fun x40_3 H =>
  CallsH Tryz.prog 42 #[x38_3, x40_3] H fun x41_3 H =>
  Get (arithV .geq .i64 x41_3 (.int .i64 0)) fun x42_3 =>
  Get (pickV (.bool false) (.bool true) x42_3) fun x43_7 =>
  Br x43_7 (
  Get (pickV (.bool true) (.bool true) undef) fun x50_14 =>
  K3 [x50_14] H) (
  Get (fieldAddrV 2 x6) fun x45_7 =>
  Get (load1V x45_7 H) fun x46_7 =>
  CallsH Tryz.prog 25 #[x46_7, a1] H fun x48_7 H =>
  Get (unV .not x48_7) fun x49_7 =>
  Get (pickV (.bool false) (.bool true) x49_7) fun x50_15 =>
  K3 [x50_15] H))))) (
  Get (fieldAddrV 1 x6) fun x18 =>
  Get (load1V x18 H) fun x19 =>
  Get (lenStrV x19) fun x20 =>
  Get (arithV .gtr .i64 x20 (.int .i64 200)) fun x21 =>
  Get (pickV (.bool false) (.bool true) x21) fun x22_1 =>
  Br x22_1 (
  Get (pickV (.bool true) (.bool true) undef) fun x28_2 =>
  Br x28_2 (
  Get (pickV (.bool true) (.bool true) undef) fun x34_4 =>
  Br x34_4 (
  Get (pickV (.bool true) (.bool true) undef) fun x43_8 =>
  Br x43_8 (
  Get (pickV (.bool true) (.bool true) undef) fun x50_16 =>
  K3 [x50_16] H) (
  Get (fieldAddrV 2 x6) fun x45_8 =>
  Get (load1V x45_8 H) fun x46_8 =>
  CallsH Tryz.prog 25 #[x46_8, a1] H fun x48_8 H =>
  Get (unV .not x48_8) fun x49_8 =>
  Get (pickV (.bool false) (.bool true) x49_8) fun x50_17 =>
  K3 [x50_17] H)) (
  Get (fieldAddrV 1 x6) fun x36_4 =>
  Get (load1V x36_4 H) fun x37_4 =>
  ToBytes 5 x37_4 H fun x38_4 H =>
  Get (Instr.fill (fun j => some (j * 1, 1)) ((Array.range (1 * 1)).map ((#[(.int .u8 0)] : Array Value)[· % 1]!)) [(0, (.int .u8 47))]) fun cs => NewSl cs 5 1 H fun x39_4 H =>
  MarkS x39_4 H fun x40_4 H =>
  CallsH Tryz.prog 42 #[x38_4, x40_4] H fun x41_4 H =>
  Get (arithV .geq .i64 x41_4 (.int .i64 0)) fun x42_4 =>
  Get (pickV (.bool false) (.bool true) x42_4) fun x43_9 =>
  Br x43_9 (
  Get (pickV (.bool true) (.bool true) undef) fun x50_18 =>
  K3 [x50_18] H) (
  Get (fieldAddrV 2 x6) fun x45_9 =>
  Get (load1V x45_9 H) fun x46_9 =>
  CallsH Tryz.prog 25 #[x46_9, a1] H fun x48_9 H =>
  Get (unV .not x48_9) fun x49_9 =>
  Get (pickV (.bool false) (.bool true) x49_9) fun x50_19 =>
  K3 [x50_19] H))) (
  Get (fieldAddrV 1 x6) fun x30_2 =>
  Get (load1V x30_2 H) fun x31_2 =>
  CallsH Tryz.prog 41 #[x31_2] H fun x32_2 H =>
  Get (unV .not x32_2) fun x33_2 =>
  Get (pickV (.bool false) (.bool true) x33_2) fun x34_5 =>
  Br x34_5 (
  Get (pickV (.bool true) (.bool true) undef) fun x43_10 =>
  Br x43_10 (
  Get (pickV (.bool true) (.bool true) undef) fun x50_20 =>
  K3 [x50_20] H) (
  Get (fieldAddrV 2 x6) fun x45_10 =>
  Get (load1V x45_10 H) fun x46_10 =>
  CallsH Tryz.prog 25 #[x46_10, a1] H fun x48_10 H =>
  Get (unV .not x48_10) fun x49_10 =>
  Get (pickV (.bool false) (.bool true) x49_10) fun x50_21 =>
  K3 [x50_21] H)) (
  Get (fieldAddrV 1 x6) fun x36_5 =>
  Get (load1V x36_5 H) fun x37_5 =>
  ToBytes 5 x37_5 H fun x38_5 H =>
  Get (Instr.fill (fun j => some (j * 1, 1)) ((Array.range (1 * 1)).map ((#[(.int .u8 0)] : Array Value)[· % 1]!)) [(0, (.int .u8 47))]) fun cs => NewSl cs 5 1 H fun x39_5 H =>
  MarkS x39_5 H fun x40_5 H =>
  CallsH Tryz.prog 42 #[x38_5, x40_5] H fun x41_5 H =>
  Get (arithV .geq .i64 x41_5 (.int .i64 0)) fun x42_5 =>
  Get (pickV (.bool false) (.bool true) x42_5) fun x43_11 =>
  Br x43_11 (
  Get (pickV (.bool true) (.bool true) undef) fun x50_22 =>
  K3 [x50_22] H) (
  Get (fieldAddrV 2 x6) fun x45_11 =>
  Get (load1V x45_11 H) fun x46_11 =>
  CallsH Tryz.prog 25 #[x46_11, a1] H fun x48_11 H =>
  Get (unV .not x48_11) fun x49_11 =>
  Get (pickV (.bool false) (.bool true) x49_11) fun x50_23 =>
  K3 [x50_23] H)))) (
  Get (fieldAddrV 0 x6) fun x24_1 =>
  Get (load1V x24_1 H) fun x25_1 =>
  CallsH Tryz.prog 41 #[x25_1] H fun x26_1 H =>
  Get (unV .not x26_1) fun x27_1 =>
  Get (pickV (.bool false) (.bool true) x27_1) fun x28_3 =>
  Br x28_3 (
  Get (pickV (.bool true) (.bool true) undef) fun x34_6 =>
  Br x34_6 (
  Get (pickV (.bool true) (.bool true) undef) fun x43_12 =>
  Br x43_12 (
  Get (pickV (.bool true) (.bool true) undef) fun x50_24 =>
  K3 [x50_24] H) (
  Get (fieldAddrV 2 x6) fun x45_12 =>
  Get (load1V x45_12 H) fun x46_12 =>
  CallsH Tryz.prog 25 #[x46_12, a1] H fun x48_12 H =>
  Get (unV .not x48_12) fun x49_12 =>
  Get (pickV (.bool false) (.bool true) x49_12) fun x50_25 =>
  K3 [x50_25] H)) (
  Get (fieldAddrV 1 x6) fun x36_6 =>
  Get (load1V x36_6 H) fun x37_6 =>
  ToBytes 5 x37_6 H fun x38_6 H =>
  Get (Instr.fill (fun j => some (j * 1, 1)) ((Array.range (1 * 1)).map ((#[(.int .u8 0)] : Array Value)[· % 1]!)) [(0, (.int .u8 47))]) fun cs => NewSl cs 5 1 H fun x39_6 H =>
  MarkS x39_6 H fun x40_6 H =>
  CallsH Tryz.prog 42 #[x38_6, x40_6] H fun x41_6 H =>
  Get (arithV .geq .i64 x41_6 (.int .i64 0)) fun x42_6 =>
  Get (pickV (.bool false) (.bool true) x42_6) fun x43_13 =>
  Br x43_13 (
  Get (pickV (.bool true) (.bool true) undef) fun x50_26 =>
  K3 [x50_26] H) (
  Get (fieldAddrV 2 x6) fun x45_13 =>
  Get (load1V x45_13 H) fun x46_13 =>
  CallsH Tryz.prog 25 #[x46_13, a1] H fun x48_13 H =>
  Get (unV .not x48_13) fun x49_13 =>
  Get (pickV (.bool false) (.bool true) x49_13) fun x50_27 =>
  K3 [x50_27] H))) (
  Get (fieldAddrV 1 x6) fun x30_3 =>
  Get (load1V x30_3 H) fun x31_3 =>
  CallsH Tryz.prog 41 #[x31_3] H fun x32_3 H =>
  Get (unV .not x32_3) fun x33_3 =>
  Get (pickV (.bool false) (.bool true) x33_3) fun x34_7 =>
  Br x34_7 (
  Get (pickV (.bool true) (.bool true) undef) fun x43_14 =>
  Br x43_14 (
  Get (pickV (.bool true) (.bool true) undef) fun x50_28 =>
  K3 [x50_28] H) (
  Get (fieldAddrV 2 x6) fun x45_14 =>
  Get (load1V x45_14 H) fun x46_14 =>
  CallsH Tryz.prog 25 #[x46_14, a1] H fun x48_14 H =>
  Get (unV .not x48_14) fun x49_14 =>
  Get (pickV (.bool false) (.bool true) x49_14) fun x50_29 =>
  K3 [x50_29] H)) (
  Get (fieldAddrV 1 x6) fun x36_7 =>
  Get (load1V x36_7 H) fun x37_7 =>
  ToBytes 5 x37_7 H fun x38_7 H =>
  Get (Instr.fill (fun j => some (j * 1, 1)) ((Array.range (1 * 1)).map ((#[(.int .u8 0)] : Array Value)[· % 1]!)) [(0, (.int .u8 47))]) fun cs => NewSl cs 5 1 H fun x39_7 H =>
  MarkS x39_7 H fun x40_7 H =>
  CallsH Tryz.prog 42 #[x38_7, x40_7] H fun x41_7 H =>
  Get (arithV .geq .i64 x41_7 (.int .i64 0)) fun x42_7 =>
  Get (pickV (.bool false) (.bool true) x42_7) fun x43_15 =>
  Br x43_15 (
  Get (pickV (.bool true) (.bool true) undef) fun x50_30 =>
  K3 [x50_30] H) (
  Get (fieldAddrV 2 x6) fun x45_15 =>
  Get (load1V x45_15 H) fun x46_15 =>
  CallsH Tryz.prog 25 #[x46_15, a1] H fun x48_15 H =>
  Get (unV .not x48_15) fun x49_15 =>
  Get (pickV (.bool false) (.bool true) x49_15) fun x50_31 =>
  K3 [x50_31] H)))))) fun vs4 H =>
  Br (nth vs4 0) (
  R (.bool false) H) (
  Get (arithV .add .i64 (nth vs2 0) (.int .i64 1)) fun x51 =>
  K1 [x51] H)) (
  CallsH Tryz.prog 9 #[a1] H fun x53 H =>
  R x53 H)
def p13 : Plan := .seq (.leaf []) (.seq (.seq (.leaf []) (.block (.loop [9] (.seq (.leaf []) (.seq (.cond (.leaf []) (.leaf [])) (.seq (.block (.seq (.leaf []) (.join [50] (.leaf []) (.cond (.seq (.leaf []) (.leaf [])) (.leaf []))))) (.leaf []))))))) (.seq (.leaf []) (.leaf [])))
theorem s13 {a0 a1 : Value} {H : Heap} {R : Value → Heap → Prop} (h : c13 a0 a1 H R) : CallsH Tryz.prog 13 #[a0, a1] H R :=
  callsH_of_eq p13 (fn := Tryz.f13) (c := Tryz.f13.body.getD .skip) (args := [a0, a1]) Tryz.func13 (by kernel_rfl) mixed (by kernel_rfl) (by kernel_rfl) (by kernel_rfl) h

/-- spec.Printable -/
def c41 (a0 : Value) (H : Heap) (R : Value → Heap → Prop) : Prop :=
  Loop [(.int .i64 0)] H fun K1 vs2 H =>
  Get (lenStrV a0) fun x6 =>
  Get (arithV .lss .i64 (nth vs2 0) x6) fun x7 =>
  Br x7 (
  Join (fun K3 =>
  Get (strIndexV a0 (nth vs2 0)) fun x12 =>
  Get (arithV .lss .u8 x12 (.int .u8 32)) fun x13 =>
  Br x13 (
  Get (pickV (.bool true) (.bool true) undef) fun x19 =>
  K3 [x19] H) (
  Get (strIndexV a0 (nth vs2 0)) fun x17 =>
  Get (arithV .gtr .u8 x17 (.int .u8 126)) fun x18 =>
  Get (pickV (.bool false) (.bool true) x18) fun x19_1 =>
  K3 [x19_1] H)) fun vs4 H =>
  Br (nth vs4 0) (
  R (.bool false) H) (
  Get (arithV .add .i64 (nth vs2 0) (.int .i64 1)) fun x9 =>
  K1 [x9] H)) (
  R (.bool true) H)
def p41 : Plan := .seq (.leaf []) (.seq (.seq (.leaf []) (.block (.loop [3] (.seq (.seq (.leaf []) (.cond (.leaf []) (.leaf []))) (.seq (.block (.join [19] (.leaf []) (.cond (.seq (.leaf []) (.leaf [])) (.leaf [])))) (.leaf [])))))) (.seq (.leaf []) (.leaf [])))
theorem s41 {a0 : Value} {H : Heap} {R : Value → Heap → Prop} (h : c41 a0 H R) : CallsH Tryz.prog 41 #[a0] H R :=
  callsH_of_eq p41 (fn := Tryz.f41) (c := Tryz.f41.body.getD .skip) (args := [a0]) Tryz.func41 (by kernel_rfl) mixed (by kernel_rfl) (by kernel_rfl) (by kernel_rfl) h

/-- spec.find -/
def c42 (a0 a1 : Value) (H : Heap) (R : Value → Heap → Prop) : Prop :=
  Loop [(.int .i64 0)] H fun K1 vs2 H =>
  Get (lenV a1) fun x8 =>
  Get (arithV .add .i64 (nth vs2 0) x8) fun x9 =>
  Get (lenV a0) fun x11 =>
  Get (arithV .leq .i64 x9 x11) fun x12 =>
  Br x12 (
  Get (sliceV 1 a0 (some (nth vs2 0)) none none) fun x17 =>
  CallsH Tryz.prog 58 #[x17, a1] H fun x19 H =>
  Br x19 (
  R (nth vs2 0) H) (
  Get (arithV .add .i64 (nth vs2 0) (.int .i64 1)) fun x14 =>
  K1 [x14] H)) (
  R (.int .i64 (-1)) H)
def p42 : Plan := .seq (.leaf []) (.seq (.seq (.leaf []) (.block (.loop [5] (.seq (.seq (.leaf []) (.cond (.leaf []) (.leaf []))) (.seq (.block (.seq (.leaf []) (.cond (.seq (.leaf []) (.leaf [])) (.leaf [])))) (.leaf [])))))) (.seq (.leaf []) (.leaf [])))
theorem s42 {a0 a1 : Value} {H : Heap} {R : Value → Heap → Prop} (h : c42 a0 a1 H R) : CallsH Tryz.prog 42 #[a0, a1] H R :=
  callsH_of_eq p42 (fn := Tryz.f42) (c := Tryz.f42.body.getD .skip) (args := [a0, a1]) Tryz.func42 (by kernel_rfl) mixed (by kernel_rfl) (by kernel_rfl) (by kernel_rfl) h

/-- spec.Free -/
def c25 (a0 a1 : Value) (H : Heap) (R : Value → Heap → Prop) : Prop :=
  Get (strV .add (.string ⟨#[45, 45]⟩) a1) fun x7 =>
  ToBytes 5 x7 H fun x8 H =>
  Join (fun K1 =>
  CallsH Tryz.prog 58 #[a0, x8] H fun x11 H =>
  Get (unV .not x11) fun x12 =>
  Br x12 (
  Get (Instr.fill (fun j => some (j * 1, 1)) ((Array.range (1 * 1)).map ((#[(.int .u8 0)] : Array Value)[· % 1]!)) [(0, (.int .u8 10))]) fun cs => NewSl cs 5 1 H fun x15 H =>
  Append 5 1 1 #[(.int .u8 0)] x15 x8 H fun x17 H =>
  CallsH Tryz.prog 42 #[a0, x17] H fun x18 H =>
  Get (arithV .lss .i64 x18 (.int .i64 0)) fun x19 =>
  Get (pickV (.bool true) x19 (.bool false)) fun x20 =>
  K1 [x20] H) (
  Get (pickV (.bool false) undef (.bool false)) fun x20_1 =>
  K1 [x20_1] H)) fun vs2 H =>
  R (nth vs2 0) H
def p25 : Plan := .seq (.leaf []) (.seq (.leaf []) (.join [4] (.leaf []) (.leaf [])))
theorem s25 {a0 a1 : Value} {H : Heap} {R : Value → Heap → Prop} (h : c25 a0 a1 H R) : CallsH Tryz.prog 25 #[a0, a1] H R :=
  callsH_of_eq p25 (fn := Tryz.f25) (c := Tryz.f25.body.getD .skip) (args := [a0, a1]) Tryz.func25 (by kernel_rfl) mixed (by kernel_rfl) (by kernel_rfl) (by kernel_rfl) h

/-- spec.FieldParts -/
def c16 (a0 : Value) (H : Heap) (R : Value → Heap → Prop) : Prop :=
  Get (lenV a0) fun x8 =>
  Loop [(.slice none 0 0), (.int .i64 0)] H fun K1 vs2 H =>
  Get (arithV .lss .i64 (nth vs2 1) x8) fun x10 =>
  Br x10 (
  Join (fun K3 =>
  Get (elemAddrV 3 a0 (nth vs2 1)) fun x11 =>
  Get (loadNV 3 x11 H) fun x12 =>
  New (.cells #[(.string ⟨#[]⟩), (.string ⟨#[]⟩), (.slice none 0 0)] 80 (0, 0)) H fun x5 H =>
  Get (storeNV 3 x5 x12 H) fun H =>
  Get (fieldAddrV 0 x5) fun x13 =>
  Get (load1V x13 H) fun x14 =>
  CallsH Tryz.prog 47 #[x14] H fun x15 H =>
  Get (strV .add (.string ⟨#[102, 111, 114, 109, 45, 100, 97, 116, 97, 59, 32, 110, 97, 109, 101, 61, 34]⟩) x15) fun x16 =>
  Get (strV .add x16 (.string ⟨#[34]⟩)) fun x17 =>
  Get (fieldAddrV 1 x5) fun x18 =>
  Get (load1V x18 H) fun x19 =>
  Get (strV .eql x19 (.string ⟨#[]⟩)) fun x20 =>
  Br x20 (
  Get (Instr.fill (fun j => some (j * 1, 1)) ((Array.range (1 * 1)).map ((#[(.string ⟨#[]⟩)] : Array Value)[· % 1]!)) [(0, x17)]) fun cs => NewSl cs 9 1 H fun x23 H =>
  Get ((fillV #[(0, 1), (1, 1)] #[(.string ⟨#[]⟩), (.slice none 0 0)] [(0, (.string ⟨#[67, 111, 110, 116, 101, 110, 116, 45, 68, 105, 115, 112, 111, 115, 105, 116, 105, 111, 110]⟩)), (1, x23)]).map .agg) fun x24 =>
  Get (Instr.fill (fun j => some (j * 2, 2)) ((Array.range (1 * 2)).map ((#[(.string ⟨#[]⟩), (.slice none 0 0)] : Array Value)[· % 2]!)) [(0, x24)]) fun cs => NewSl cs 90 1 H fun x25 H =>
  Get (fieldAddrV 2 x5) fun x26 =>
  Get (load1V x26 H) fun x27 =>
  Get ((fillV #[(0, 1), (1, 1)] #[(.slice none 0 0), (.slice none 0 0)] [(0, x25), (1, x27)]).map .agg) fun x28 =>
  Get (Instr.fill (fun j => some (j * 2, 2)) ((Array.range (1 * 2)).map ((#[(.slice none 0 0), (.slice none 0 0)] : Array Value)[· % 2]!)) [(0, x28)]) fun cs => NewSl cs 39 1 H fun x29 H =>
  Append 39 2 48 #[(.slice none 0 0), (.slice none 0 0)] (nth vs2 0) x29 H fun x30 H =>
  K3 [x30] H) (
  Get (fieldAddrV 1 x5) fun x32 =>
  Get (load1V x32 H) fun x33 =>
  CallsH Tryz.prog 47 #[x33] H fun x34 H =>
  Get (strV .add (.string ⟨#[59, 32, 102, 105, 108, 101, 110, 97, 109, 101, 61, 34]⟩) x34) fun x35 =>
  Get (strV .add x35 (.string ⟨#[34]⟩)) fun x36 =>
  Get (strV .add x17 x36) fun x37 =>
  Get (Instr.fill (fun j => some (j * 1, 1)) ((Array.range (1 * 1)).map ((#[(.string ⟨#[]⟩)] : Array Value)[· % 1]!)) [(0, x37)]) fun cs => NewSl cs 9 1 H fun x40 H =>
  Get ((fillV #[(0, 1), (1, 1)] #[(.string ⟨#[]⟩), (.slice none 0 0)] [(0, (.string ⟨#[67, 111, 110, 116, 101, 110, 116, 45, 68, 105, 115, 112, 111, 115, 105, 116, 105, 111, 110]⟩)), (1, x40)]).map .agg) fun x41 =>
  Get (Instr.fill (fun j => some (j * 1, 1)) ((Array.range (1 * 1)).map ((#[(.string ⟨#[]⟩)] : Array Value)[· % 1]!)) [(0, (.string ⟨#[97, 112, 112, 108, 105, 99, 97, 116, 105, 111, 110, 47, 111, 99, 116, 101, 116, 45, 115, 116, 114, 101, 97, 109]⟩))]) fun cs => NewSl cs 9 1 H fun x42 H =>
  Get ((fillV #[(0, 1), (1, 1)] #[(.string ⟨#[]⟩), (.slice none 0 0)] [(0, (.string ⟨#[67, 111, 110, 116, 101, 110, 116, 45, 84, 121, 112, 101]⟩)), (1, x42)]).map .agg) fun x43 =>
  Get (Instr.fill (fun j => some (j * 2, 2)) ((Array.range (2 * 2)).map ((#[(.string ⟨#[]⟩), (.slice none 0 0)] : Array Value)[· % 2]!)) [(0, x41), (1, x43)]) fun cs => NewSl cs 90 2 H fun x44 H =>
  Get (fieldAddrV 2 x5) fun x45 =>
  Get (load1V x45 H) fun x46 =>
  Get ((fillV #[(0, 1), (1, 1)] #[(.slice none 0 0), (.slice none 0 0)] [(0, x44), (1, x46)]).map .agg) fun x47 =>
  Get (Instr.fill (fun j => some (j * 2, 2)) ((Array.range (1 * 2)).map ((#[(.slice none 0 0), (.slice none 0 0)] : Array Value)[· % 2]!)) [(0, x47)]) fun cs => NewSl cs 39 1 H fun x48 H =>
  Append 39 2 48 #[(.slice none 0 0), (.slice none 0 0)] (nth vs2 0) x48 H fun x49 H =>
  K3 [x49] H)) fun vs4 H =>
  Get (arithV .add .i64 (nth vs2 1) (.int .i64 1)) fun x50 =>
  K1 [(nth vs4 0), x50] H) (
  R (nth vs2 0) H)
def p16 : Plan := .seq (.leaf []) (.seq (.leaf []) (.seq (.seq (.leaf []) (.block (.loop [3, 9] (.seq (.leaf []) (.seq (.cond (.leaf []) (.leaf [])) (.join [3] (.block (.seq (.leaf []) (.seq (.leaf []) (.seq (.seq (.leaf []) (.cond (.seq (.leaf []) (.leaf [])) (.leaf []))) (.seq (.leaf []) (.leaf [])))))) (.leaf []))))))) (.seq (.leaf []) (.leaf []))))
theorem s16 {a0 : Value} {H : Heap} {R : Value → Heap → Prop} (h : c16 a0 H R) : CallsH Tryz.prog 16 #[a0] H R :=
  callsH_of_eq p16 (fn := Tryz.f16) (c := Tryz.f16.body.getD .skip) (args := [a0]) Tryz.func16 (by kernel_rfl) mixed (by kernel_rfl) (by kernel_rfl) (by kernel_rfl) h

/-- spec.Quote -/
def c47 (a0 : Value) (H : Heap) (R : Value → Heap → Prop) : Prop :=
  Loop [(.slice none 0 0), (.int .i64 0)] H fun K1 vs2 H =>
  Get (lenStrV a0) fun x7 =>
  Get (arithV .lss .i64 (nth vs2 1) x7) fun x8 =>
  Br x8 (
  Join (fun K3 =>
  Join (fun K4 =>
  Get (strIndexV a0 (nth vs2 1)) fun x13 =>
  Get (arithV .eql .u8 x13 (.int .u8 92)) fun x14 =>
  Br x14 (
  Get (pickV (.bool true) (.bool true) undef) fun x20 =>
  K4 [x20] H) (
  Get (strIndexV a0 (nth vs2 1)) fun x18 =>
  Get (arithV .eql .u8 x18 (.int .u8 34)) fun x19 =>
  Get (pickV (.bool false) (.bool true) x19) fun x20_1 =>
  K4 [x20_1] H)) fun vs5 H =>
  Br (nth vs5 0) (
  Get (Instr.fill (fun j => some (j * 1, 1)) ((Array.range (1 * 1)).map ((#[(.int .u8 0)] : Array Value)[· % 1]!)) [(0, (.int .u8 92))]) fun cs => NewSl cs 5 1 H fun x22 H =>
  Append 5 1 1 #[(.int .u8 0)] (nth vs2 0) x22 H fun x23 H =>
  K3 [x23] H) (
  K3 [(nth vs2 0)] H)) fun vs6 H =>
  Get (strIndexV a0 (nth vs2 1)) fun x27 =>
  Get (Instr.fill (fun j => some (j * 1, 1)) ((Array.range (1 * 1)).map ((#[(.int .u8 0)] : Array Value)[· % 1]!)) [(0, x27)]) fun cs => NewSl cs 5 1 H fun x28 H =>
  Append 5 1 1 #[(.int .u8 0)] (nth vs6 0) x28 H fun x29 H =>
  Get (arithV .add .i64 (nth vs2 1) (.int .i64 1)) fun x10 =>
  K1 [x29, x10] H) (
  Get (bytesV (nth vs2 0) H) fun x31 =>
  R x31 H)
def p47 : Plan := .seq (.leaf []) (.seq (.leaf []) (.seq (.seq (.leaf []) (.block (.loop [3, 4] (.seq (.seq (.leaf []) (.cond (.leaf []) (.leaf []))) (.seq (.block (.join [3] (.join [20] (.leaf []) (.cond (.leaf []) (.leaf []))) (.leaf []))) (.leaf [])))))) (.seq (.leaf []) (.leaf []))))
theorem s47 {a0 : Value} {H : Heap} {R : Value → Heap → Prop} (h : c47 a0 H R) : CallsH Tryz.prog 47 #[a0] H R :=
  callsH_of_eq p47 (fn := Tryz.f47) (c := Tryz.f47.body.getD .skip) (args := [a0]) Tryz.func47 (by kernel_rfl) mixed (by kernel_rfl) (by kernel_rfl) (by kernel_rfl) h

/-- spec.Same -/
def c15 (a0 a1 : Value) (H : Heap) (R : Value → Heap → Prop) : Prop :=
  CallsH Tryz.prog 45 #[a0, a1, (.func (.func 46) #[] #[])] H fun x7 H =>
  R x7 H
def p15 : Plan := .seq (.leaf []) (.seq (.leaf []) (.leaf []))
theorem s15 {a0 a1 : Value} {H : Heap} {R : Value → Heap → Prop} (h : c15 a0 a1 H R) : CallsH Tryz.prog 15 #[a0, a1] H R :=
  callsH_of_eq p15 (fn := Tryz.f15) (c := Tryz.f15.body.getD .skip) (args := [a0, a1]) Tryz.func15 (by kernel_rfl) mixed (by kernel_rfl) (by kernel_rfl) (by kernel_rfl) h

/-- slices.EqualFunc[[]impl.Part,[]impl.Part,impl.Part,impl.Part] -/
def c45 (a0 a1 a2 : Value) (H : Heap) (R : Value → Heap → Prop) : Prop :=
  Get (lenV a0) fun x11 =>
  Get (lenV a1) fun x13 =>
  Get (arithV .neq .i64 x11 x13) fun x14 =>
  Br x14 (
  R (.bool false) H) (
  Get (lenV a0) fun x16 =>
  Loop [(.int .i64 0)] H fun K1 vs2 H =>
  Get (arithV .lss .i64 (nth vs2 0) x16) fun x18 =>
  Br x18 (
  Get (elemAddrV 2 a0 (nth vs2 0)) fun x20 =>
  Get (loadNV 2 x20 H) fun x21 =>
  New (.cells #[(.slice none 0 0), (.slice none 0 0)] 39 (0, 0)) H fun x8 H =>
  Get (storeNV 2 x8 x21 H) fun H =>
  Get (elemAddrV 2 a1 (nth vs2 0)) fun x24 =>
  Get (loadNV 2 x24 H) fun x25 =>
  New (.cells #[(.slice none 0 0), (.slice none 0 0)] 39 (0, 0)) H fun x9 H =>
  Get (storeNV 2 x9 x25 H) fun H =>
  Get (loadNV 2 x8 H) fun x27 =>
  Get (loadNV 2 x9 H) fun x28 =>
  CallV Tryz.prog a2 #[x27, x28] H fun x29 H =>
  Get (unV .not x29) fun x30 =>
  Br x30 (
  R (.bool false) H) (
  Get (arithV .add .i64 (nth vs2 0) (.int .i64 1)) fun x31 =>
  K1 [x31] H)) (
  R (.bool true) H))
def p45 : Plan := .seq (.leaf []) (.seq (.seq (.leaf []) (.cond (.seq (.leaf []) (.leaf [])) (.leaf []))) (.seq (.seq (.leaf []) (.block (.loop [17] (.seq (.leaf []) (.seq (.cond (.leaf []) (.leaf [])) (.seq (.block (.seq (.leaf []) (.seq (.leaf []) (.seq (.leaf []) (.cond (.seq (.leaf []) (.leaf [])) (.leaf [])))))) (.leaf []))))))) (.seq (.leaf []) (.leaf []))))
theorem s45 {a0 a1 a2 : Value} {H : Heap} {R : Value → Heap → Prop} (h : c45 a0 a1 a2 H R) : CallsH Tryz.prog 45 #[a0, a1, a2] H R :=
  callsH_of_eq p45 (fn := Tryz.f45) (c := Tryz.f45.body.getD .skip) (args := [a0, a1, a2]) Tryz.func45 (by kernel_rfl) mixed (by kernel_rfl) (by kernel_rfl) (by kernel_rfl) h

/-- spec.Same$1 -/
def c46 (a0 a1 : Value) (H : Heap) (R : Value → Heap → Prop) : Prop :=
  New (.cells (Value.cells a0) 39 (0, 0)) H fun x2 H =>
  New (.cells (Value.cells a1) 39 (0, 0)) H fun x3 H =>
  Join (fun K1 =>
  Get (fieldAddrV 0 x2) fun x5 =>
  Get (load1V x5 H) fun x6 =>
  Get (fieldAddrV 0 x3) fun x7 =>
  Get (load1V x7 H) fun x8 =>
  CallsH Tryz.prog 21 #[x6, x8] H fun x9 H =>
  Br x9 (
  Get (fieldAddrV 1 x2) fun x11 =>
  Get (load1V x11 H) fun x12 =>
  Get (bytesV x12 H) fun x13 =>
  Get (fieldAddrV 1 x3) fun x14 =>
  Get (load1V x14 H) fun x15 =>
  Get (bytesV x15 H) fun x16 =>
  Get (strV .eql x13 x16) fun x17 =>
  Get (pickV (.bool true) x17 (.bool false)) fun x18 =>
  K1 [x18] H) (
  Get (pickV (.bool false) undef (.bool false)) fun x18_1 =>
  K1 [x18_1] H)) fun vs2 H =>
  R (nth vs2 0) H
def p46 : Plan := .seq (.leaf []) (.join [4] (.leaf []) (.leaf []))
theorem s46 {a0 a1 : Value} {H : Heap} {R : Value → Heap → Prop} (h : c46 a0 a1 H R) : CallsH Tryz.prog 46 #[a0, a1] H R :=
  callsH_of_eq p46 (fn := Tryz.f46) (c := Tryz.f46.body.getD .skip) (args := [a0, a1]) Tryz.func46 (by kernel_rfl) mixed (by kernel_rfl) (by kernel_rfl) (by kernel_rfl) h

/-- spec.SameHead -/
def c21 (a0 a1 : Value) (H : Heap) (R : Value → Heap → Prop) : Prop :=
  CallsH Tryz.prog 51 #[a0, a1, (.func (.func 52) #[] #[])] H fun x7 H =>
  R x7 H
def p21 : Plan := .seq (.leaf []) (.seq (.leaf []) (.leaf []))
theorem s21 {a0 a1 : Value} {H : Heap} {R : Value → Heap → Prop} (h : c21 a0 a1 H R) : CallsH Tryz.prog 21 #[a0, a1] H R :=
  callsH_of_eq p21 (fn := Tryz.f21) (c := Tryz.f21.body.getD .skip) (args := [a0, a1]) Tryz.func21 (by kernel_rfl) mixed (by kernel_rfl) (by kernel_rfl) (by kernel_rfl) h

/-- slices.EqualFunc[[]impl.Header,[]impl.Header,impl.Header,impl.Header] -/
def c51 (a0 a1 a2 : Value) (H : Heap) (R : Value → Heap → Prop) : Prop :=
  Get (lenV a0) fun x11 =>
  Get (lenV a1) fun x13 =>
  Get (arithV .neq .i64 x11 x13) fun x14 =>
  Br x14 (
  R (.bool false) H) (
  Get (lenV a0) fun x16 =>
  Loop [(.int .i64 0)] H fun K1 vs2 H =>
  Get (arithV .lss .i64 (nth vs2 0) x16) fun x18 =>
  Br x18 (
  Get (elemAddrV 2 a0 (nth vs2 0)) fun x20 =>
  Get (loadNV 2 x20 H) fun x21 =>
  New (.cells #[(.string ⟨#[]⟩), (.slice none 0 0)] 90 (0, 0)) H fun x8 H =>
  Get (storeNV 2 x8 x21 H) fun H =>
  Get (elemAddrV 2 a1 (nth vs2 0)) fun x24 =>
  Get (loadNV 2 x24 H) fun x25 =>
  New (.cells #[(.string ⟨#[]⟩), (.slice none 0 0)] 90 (0, 0)) H fun x9 H =>
  Get (storeNV 2 x9 x25 H) fun H =>
  Get (loadNV 2 x8 H) fun x27 =>
  Get (loadNV 2 x9 H) fun x28 =>
  CallV Tryz.prog a2 #[x27, x28] H fun x29 H =>
  Get (unV .not x29) fun x30 =>
  Br x30 (
  R (.bool false) H) (
  Get (arithV .add .i64 (nth vs2 0) (.int .i64 1)) fun x31 =>
  K1 [x31] H)) (
  R (.bool true) H))
def p51 : Plan := .seq (.leaf []) (.seq (.seq (.leaf []) (.cond (.seq (.leaf []) (.leaf [])) (.leaf []))) (.seq (.seq (.leaf []) (.block (.loop [17] (.seq (.leaf []) (.seq (.cond (.leaf []) (.leaf [])) (.seq (.block (.seq (.leaf []) (.seq (.leaf []) (.seq (.leaf []) (.cond (.seq (.leaf []) (.leaf [])) (.leaf [])))))) (.leaf []))))))) (.seq (.leaf []) (.leaf []))))
theorem s51 {a0 a1 a2 : Value} {H : Heap} {R : Value → Heap → Prop} (h : c51 a0 a1 a2 H R) : CallsH Tryz.prog 51 #[a0, a1, a2] H R :=
  callsH_of_eq p51 (fn := Tryz.f51) (c := Tryz.f51.body.getD .skip) (args := [a0, a1, a2]) Tryz.func51 (by kernel_rfl) mixed (by kernel_rfl) (by kernel_rfl) (by kernel_rfl) h

/-- spec.SameHead$1 -/
def c52 (a0 a1 : Value) (H : Heap) (R : Value → Heap → Prop) : Prop :=
  New (.cells (Value.cells a0) 90 (0, 0)) H fun x2 H =>
  New (.cells (Value.cells a1) 90 (0, 0)) H fun x3 H =>
  Join (fun K1 =>
  Get (fieldAddrV 0 x2) fun x5 =>
  Get (load1V x5 H) fun x6 =>
  Get (fieldAddrV 0 x3) fun x7 =>
  Get (load1V x7 H) fun x8 =>
  Get (strV .eql x6 x8) fun x9 =>
  Br x9 (
  Get (fieldAddrV 1 x2) fun x11 =>
  Get (load1V x11 H) fun x12 =>
  Get (fieldAddrV 1 x3) fun x13 =>
  Get (load1V x13 H) fun x14 =>
  CallsH Tryz.prog 53 #[x12, x14] H fun x15 H =>
  Get (pickV (.bool true) x15 (.bool false)) fun x16 =>
  K1 [x16] H) (
  Get (pickV (.bool false) undef (.bool false)) fun x16_1 =>
  K1 [x16_1] H)) fun vs2 H =>
  R (nth vs2 0) H
def p52 : Plan := .seq (.leaf []) (.join [4] (.leaf []) (.leaf []))
theorem s52 {a0 a1 : Value} {H : Heap} {R : Value → Heap → Prop} (h : c52 a0 a1 H R) : CallsH Tryz.prog 52 #[a0, a1] H R :=
  callsH_of_eq p52 (fn := Tryz.f52) (c := Tryz.f52.body.getD .skip) (args := [a0, a1]) Tryz.func52 (by kernel_rfl) mixed (by kernel_rfl) (by kernel_rfl) (by kernel_rfl) h

/-- slices.Equal[[]string,string] -/
def c53 (a0 a1 : Value) (H : Heap) (R : Value → Heap → Prop) : Prop :=
  Get (lenV a0) fun x7 =>
  Get (lenV a1) fun x9 =>
  Get (arithV .neq .i64 x7 x9) fun x10 =>
  Br x10 (
  R (.bool false) H) (
  Get (lenV a0) fun x12 =>
  Loop [(.int .i64 0)] H fun K1 vs2 H =>
  Get (arithV .lss .i64 (nth vs2 0) x12) fun x14 =>
  Br x14 (
  Get (elemAddrV 1 a0 (nth vs2 0)) fun x18 =>
  Get (load1V x18 H) fun x19 =>
  Get (elemAddrV 1 a1 (nth vs2 0)) fun x22 =>
  Get (load1V x22 H) fun x23 =>
  Get (strV .neq x19 x23) fun x24 =>
  Br x24 (
  R (.bool false) H) (
  Get (arithV .add .i64 (nth vs2 0) (.int .i64 1)) fun x25 =>
  K1 [x25] H)) (
  R (.bool true) H))
def p53 : Plan := .seq (.leaf []) (.seq (.seq (.leaf []) (.cond (.seq (.leaf []) (.leaf [])) (.leaf []))) (.seq (.seq (.leaf []) (.block (.loop [13] (.seq (.leaf []) (.seq (.cond (.leaf []) (.leaf [])) (.seq (.block (.seq (.leaf []) (.seq (.leaf [0, 1, 2, 3, 4, 5, 6, 7, 8]) (.cond (.seq (.leaf []) (.leaf [])) (.leaf []))))) (.leaf []))))))) (.seq (.leaf []) (.leaf []))))
theorem s53 {a0 a1 : Value} {H : Heap} {R : Value → Heap → Prop} (h : c53 a0 a1 H R) : CallsH Tryz.prog 53 #[a0, a1] H R :=
  callsH_of_eq p53 (fn := Tryz.f53) (c := Tryz.f53.body.getD .skip) (args := [a0, a1]) Tryz.func53 (by kernel_rfl) mixed (by kernel_rfl) (by kernel_rfl) (by kernel_rfl) h

/-- laws.FnExactForm -/
def c4 (a0 a1 : Value) (H : Heap) (R : Value → Heap → Prop) : Prop :=
  Join (fun K1 =>
  CallsH Tryz.prog 12 #[a0] H fun x8 H =>
  Get (unV .not x8) fun x9 =>
  Br x9 (
  Get (pickV (.bool true) (.bool true) undef) fun x14 =>
  K1 [x14] H) (
  Get (lenStrV a1) fun x12 =>
  Get (arithV .gtr .i64 x12 (.int .i64 2147483647)) fun x13 =>
  Get (pickV (.bool false) (.bool true) x13) fun x14_1 =>
  K1 [x14_1] H)) fun vs2 H =>
  Br (nth vs2 0) (
  R (.bool true) H) (
  Get (lenStrV a1) fun x16 =>
  Get (arithV .gtr .i64 x16 (.int .i64 16777216)) fun x17 =>
  Br x17 (
  R (.bool true) H) (
  CallsH Tryz.prog 13 #[a0, a1] H fun x20 H =>
  Get (unV .not x20) fun x21 =>
  Br x21 (
  R (.bool true) H) (
  CallsH Tryz.prog 14 #[a1, a0] H fun x25 H =>
  CallsH Tryz.prog 11 #[x25, a1] H fun x27 H =>
  Get (extractV x27 0) fun x28 =>
  Get (extractV x27 1) fun x29 =>
  Join (fun K3 =>
  Get (arithV .eql .i64 x29 (.int .i64 1)) fun x31 =>
  Br x31 (
  CallsH Tryz.prog 16 #[a0] H fun x35 H =>
  CallsH Tryz.prog 15 #[x28, x35] H fun x36 H =>
  Get (pickV (.bool true) x36 (.bool false)) fun x37 =>
  K3 [x37] H) (
  Get (pickV (.bool false) undef (.bool false)) fun x37_1 =>
  K3 [x37_1] H)) fun vs4 H =>
  R (nth vs4 0) H)))
def p4 : Plan := .seq (.leaf []) (.seq (.join [14] (.leaf []) (.cond (.seq (.leaf []) (.leaf [])) (.leaf []))) (.seq (.seq (.leaf []) (.cond (.seq (.leaf []) (.leaf [])) (.leaf []))) (.seq (.seq (.leaf []) (.cond (.seq (.leaf []) (.leaf [])) (.leaf []))) (.seq (.leaf []) (.join [4] (.leaf []) (.leaf []))))))
theorem s4 {a0 a1 : Value} {H : Heap} {R : Value → Heap → Prop} (h : c4 a0 a1 H R) : CallsH Tryz.prog 4 #[a0, a1] H R :=
  callsH_of_eq p4 (fn := Tryz.f4) (c := Tryz.f4.body.getD .skip) (args := [a0, a1]) Tryz.func4 (by kernel_rfl) mixed (by kernel_rfl) (by kernel_rfl) (by kernel_rfl) h

end Go.Cps
