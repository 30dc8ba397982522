/-
  What the bodies of some functions of the program come to, at heap level, each proved of the program itself.
  Conditions: none. Written by gen.py.
-/
import Derived.Test.YtfajmapajpfocaaGreatDoorC11
set_option linter.all false
namespace Go.Cps
open Go Go.Proofs
set_option maxRecDepth 100000

/-- bytes.HasPrefix -/
def c58 (a0 a1 : Value) (H : Heap) (R : Value → Heap → Prop) : Prop :=
  Join (fun K1 =>
  Get (lenV a0) fun x6 =>
  Get (lenV a1) fun x8 =>
  Get (arithV .geq .i64 x6 x8) fun x9 =>
  Br x9 (
  Get (lenV a1) fun x13 =>
  Get (sliceV 1 a0 none (some x13) none) fun x14 =>
  CallsH Tryz.prog 82 #[x14, a1] H fun x16 H =>
  Get (pickV (.bool true) x16 (.bool false)) fun x17 =>
  K1 [x17] H) (
  Get (pickV (.bool false) undef (.bool false)) fun x17_1 =>
  K1 [x17_1] H)) fun vs2 H =>
  R (nth vs2 0) H
def p58 : Plan := .seq (.leaf []) (.join [4] (.leaf []) (.leaf []))
theorem s58 {a0 a1 : Value} {H : Heap} {R : Value → Heap → Prop} (h : c58 a0 a1 H R) : CallsH Tryz.prog 58 #[a0, a1] H R :=
  callsH_of_eq p58 (fn := Tryz.f58) (c := Tryz.f58.body.getD .skip) (args := [a0, a1]) Tryz.func58 (by kernel_rfl) mixed (by kernel_rfl) (by kernel_rfl) (by kernel_rfl) h

/-- bytes.Equal -/
def c82 (a0 a1 : Value) (H : Heap) (R : Value → Heap → Prop) : Prop :=
  Get (bytesV a0 H) fun x6 =>
  Get (bytesV a1 H) fun x8 =>
  Get (strV .eql x6 x8) fun x9 =>
  R x9 H
def p82 : Plan := .seq (.leaf []) (.seq (.leaf []) (.leaf []))
theorem s82 {a0 a1 : Value} {H : Heap} {R : Value → Heap → Prop} (h : c82 a0 a1 H R) : CallsH Tryz.prog 82 #[a0, a1] H R :=
  callsH_of_eq p82 (fn := Tryz.f82) (c := Tryz.f82.body.getD .skip) (args := [a0, a1]) Tryz.func82 (by kernel_rfl) mixed (by kernel_rfl) (by kernel_rfl) (by kernel_rfl) h

/-- bytes.IndexByte -/
def c109 (a0 a1 : Value) (H : Heap) (R : Value → Heap → Prop) : Prop :=
  CallX Tryz.prog 142 #[a0, a1] H fun x7 H =>
  R x7 H
def p109 : Plan := .seq (.leaf []) (.seq (.leaf []) (.leaf []))
theorem s109 {a0 a1 : Value} {H : Heap} {R : Value → Heap → Prop} (h : c109 a0 a1 H R) : CallsH Tryz.prog 109 #[a0, a1] H R :=
  callsH_of_eq p109 (fn := Tryz.f109) (c := Tryz.f109.body.getD .skip) (args := [a0, a1]) Tryz.func109 (by kernel_rfl) mixed (by kernel_rfl) (by kernel_rfl) (by kernel_rfl) h

/-- pub/multipart.skipLWSPChar -/
def c113 (a0 : Value) (H : Heap) (R : Value → Heap → Prop) : Prop :=
  Loop [a0] H fun K1 vs2 H =>
  Join (fun K3 =>
  Get (lenV (nth vs2 0)) fun x4 =>
  Get (arithV .gtr .i64 x4 (.int .i64 0)) fun x5 =>
  Br x5 (
  Get (elemAddrV 1 (nth vs2 0) (.int .i64 0)) fun x8 =>
  Get (load1V x8 H) fun x9 =>
  Get (arithV .eql .u8 x9 (.int .u8 32)) fun x10 =>
  Br x10 (
  Get (pickV (.bool true) (.bool true) undef) fun x16 =>
  Get (pickV (.bool true) x16 (.bool false)) fun x17 =>
  K3 [x17] H) (
  Get (elemAddrV 1 (nth vs2 0) (.int .i64 0)) fun x13 =>
  Get (load1V x13 H) fun x14 =>
  Get (arithV .eql .u8 x14 (.int .u8 9)) fun x15 =>
  Get (pickV (.bool false) (.bool true) x15) fun x16_1 =>
  Get (pickV (.bool true) x16_1 (.bool false)) fun x17_1 =>
  K3 [x17_1] H)) (
  Get (pickV (.bool false) undef (.bool false)) fun x17_2 =>
  K3 [x17_2] H)) fun vs4 H =>
  Br (nth vs4 0) (
  Get (sliceV 1 (nth vs2 0) (some (.int .i64 1)) none none) fun x19 =>
  K1 [x19] H) (
  R (nth vs2 0) H)
def p113 : Plan := .seq (.leaf []) (.seq (.block (.loop [0] (.seq (.join [17] (.leaf []) (.cond (.leaf []) (.leaf []))) (.block (.leaf []))))) (.seq (.leaf []) (.leaf [])))
theorem s113 {a0 : Value} {H : Heap} {R : Value → Heap → Prop} (h : c113 a0 H R) : CallsH Tryz.prog 113 #[a0] H R :=
  callsH_of_eq p113 (fn := Tryz.f113) (c := Tryz.f113.body.getD .skip) (args := [a0]) Tryz.func113 (by kernel_rfl) mixed (by kernel_rfl) (by kernel_rfl) (by kernel_rfl) h

/-- (*pub/multipart.Reader).isFinalBoundary -/
def c94 (a0 a1 : Value) (H : Heap) (R : Value → Heap → Prop) : Prop :=
  Fld 6 a0 H fun x10 =>
  CallsH Tryz.prog 58 #[a1, x10] H fun x11 H =>
  Get (unV .not x11) fun x12 =>
  Br x12 (
  R (.bool false) H) (
  Fld 6 a0 H fun x17 =>
  Get (lenV x17) fun x18 =>
  Get (sliceV 1 a1 (some x18) none none) fun x19 =>
  CallsH Tryz.prog 113 #[x19] H fun x21 H =>
  Join (fun K1 =>
  Get (lenV x21) fun x23 =>
  Get (arithV .eql .i64 x23 (.int .i64 0)) fun x24 =>
  Br x24 (
  Get (pickV (.bool true) (.bool true) undef) fun x32 =>
  K1 [x32] H) (
  Fld 4 a0 H fun x30 =>
  CallsH Tryz.prog 82 #[x21, x30] H fun x31 H =>
  Get (pickV (.bool false) (.bool true) x31) fun x32_1 =>
  K1 [x32_1] H)) fun vs2 H =>
  R (nth vs2 0) H)
def p94 : Plan := .seq (.leaf []) (.seq (.seq (.leaf []) (.cond (.seq (.leaf []) (.leaf [])) (.leaf []))) (.seq (.leaf []) (.seq (.leaf []) (.join [4] (.leaf []) (.leaf [])))))
theorem s94 {a0 a1 : Value} {H : Heap} {R : Value → Heap → Prop} (h : c94 a0 a1 H R) : CallsH Tryz.prog 94 #[a0, a1] H R :=
  callsH_of_eq p94 (fn := Tryz.f94) (c := Tryz.f94.body.getD .skip) (args := [a0, a1]) Tryz.func94 (by kernel_rfl) mixed (by kernel_rfl) (by kernel_rfl) (by kernel_rfl) h

/-- (*pub/multipart.Reader).isBoundaryDelimiterLine -/
def c95 (a0 a1 : Value) (H : Heap) (R : Value → Heap → Prop) : Prop :=
  Fld 7 a0 H fun x10 =>
  CallsH Tryz.prog 58 #[a1, x10] H fun x11 H =>
  Get (unV .not x11) fun x12 =>
  Br x12 (
  R (.bool false) H) (
  Fld 7 a0 H fun x17 =>
  Get (lenV x17) fun x18 =>
  Get (sliceV 1 a1 (some x18) none none) fun x19 =>
  CallsH Tryz.prog 113 #[x19] H fun x21 H =>
  Join (fun K1 =>
  Join (fun K2 =>
  Fld 3 a0 H fun x25 =>
  Get (arithV .eql .i64 x25 (.int .i64 0)) fun x26 =>
  Br x26 (
  Get (lenV x21) fun x29 =>
  Get (arithV .eql .i64 x29 (.int .i64 1)) fun x30 =>
  Get (pickV (.bool true) x30 (.bool false)) fun x31 =>
  Br x31 (
  Get (elemAddrV 1 x21 (.int .i64 0)) fun x34 =>
  Get (load1V x34 H) fun x35 =>
  Get (arithV .eql .u8 x35 (.int .u8 10)) fun x36 =>
  Get (pickV (.bool true) x36 (.bool false)) fun x37 =>
  K2 [x37] H) (
  Get (pickV (.bool false) undef (.bool false)) fun x37_1 =>
  K2 [x37_1] H)) (
  Get (pickV (.bool false) undef (.bool false)) fun x31_1 =>
  Br x31_1 (
  Get (elemAddrV 1 x21 (.int .i64 0)) fun x34_1 =>
  Get (load1V x34_1 H) fun x35_1 =>
  Get (arithV .eql .u8 x35_1 (.int .u8 10)) fun x36_1 =>
  Get (pickV (.bool true) x36_1 (.bool false)) fun x37_2 =>
  K2 [x37_2] H) (
  Get (pickV (.bool false) undef (.bool false)) fun x37_3 =>
  K2 [x37_3] H))) fun vs3 H =>
  Br (nth vs3 0) (
  Fld 4 a0 H fun x42 =>
  Get (sliceV 1 x42 (some (.int .i64 1)) none none) fun x43 =>
  Get (nilV a0) fun x44 =>
  Get (fieldAddrV 4 x44) fun x45 =>
  Get (store1V x45 x43 H) fun H =>
  Fld 5 a0 H fun x50 =>
  Get (sliceV 1 x50 (some (.int .i64 1)) none none) fun x51 =>
  Get (nilV a0) fun x52 =>
  Get (fieldAddrV 5 x52) fun x53 =>
  Get (store1V x53 x51 H) fun H =>
  K1 [] H) (
  K1 [] H)) fun _ H =>
  Fld 4 a0 H fun x58 =>
  CallsH Tryz.prog 82 #[x21, x58] H fun x59 H =>
  R x59 H)
def p95 : Plan := .seq (.leaf []) (.seq (.seq (.leaf []) (.cond (.seq (.leaf []) (.leaf [])) (.leaf []))) (.seq (.leaf []) (.seq (.leaf []) (.join [] (.join [37] (.leaf []) (.cond (.seq (.leaf []) (.leaf [])) (.leaf []))) (.seq (.leaf []) (.leaf []))))))
theorem s95 {a0 a1 : Value} {H : Heap} {R : Value → Heap → Prop} (h : c95 a0 a1 H R) : CallsH Tryz.prog 95 #[a0, a1] H R :=
  callsH_of_eq p95 (fn := Tryz.f95) (c := Tryz.f95.body.getD .skip) (args := [a0, a1]) Tryz.func95 (by kernel_rfl) mixed (by kernel_rfl) (by kernel_rfl) (by kernel_rfl) h

/-- (*bufio.Reader).readErr -/
def c110 (a0 : Value) (H : Heap) (R : Value → Heap → Prop) : Prop :=
  Fld 4 a0 H fun x7 =>
  Get (nilV a0) fun x9 =>
  Get (fieldAddrV 4 x9) fun x10 =>
  Get (store1V x10 .nilIface H) fun H =>
  R x7 H
def p110 : Plan := .seq (.leaf []) (.seq (.leaf []) (.seq (.leaf []) (.seq (.leaf []) (.leaf []))))
theorem s110 {a0 : Value} {H : Heap} {R : Value → Heap → Prop} (h : c110 a0 H R) : CallsH Tryz.prog 110 #[a0] H R :=
  callsH_of_eq p110 (fn := Tryz.f110) (c := Tryz.f110.body.getD .skip) (args := [a0]) Tryz.func110 (by kernel_rfl) mixed (by kernel_rfl) (by kernel_rfl) (by kernel_rfl) h

/-- (*bufio.Reader).Buffered -/
def c111 (a0 : Value) (H : Heap) (R : Value → Heap → Prop) : Prop :=
  Fld 3 a0 H fun x6 =>
  Fld 2 a0 H fun x10 =>
  Get (arithV .sub .i64 x6 x10) fun x11 =>
  R x11 H
def p111 : Plan := .seq (.leaf []) (.seq (.leaf [0, 1, 2, 3, 4, 5, 6, 7, 8, 9]) (.leaf []))
theorem s111 {a0 : Value} {H : Heap} {R : Value → Heap → Prop} (h : c111 a0 H R) : CallsH Tryz.prog 111 #[a0] H R :=
  callsH_of_eq p111 (fn := Tryz.f111) (c := Tryz.f111.body.getD .skip) (args := [a0]) Tryz.func111 (by kernel_rfl) mixed (by kernel_rfl) (by kernel_rfl) (by kernel_rfl) h

/-- (*bufio.Reader).fill -/
def c112 (a0 : Value) (H : Heap) (R : Value → Heap → Prop) : Prop :=
  Join (fun K1 =>
  Fld 2 a0 H fun x8 =>
  Get (arithV .gtr .i64 x8 (.int .i64 0)) fun x9 =>
  Br x9 (
  Fld 0 a0 H fun x13 =>
  Fld 0 a0 H fun x17 =>
  Fld 2 a0 H fun x21 =>
  Fld 3 a0 H fun x25 =>
  Get (sliceV 1 x17 (some x21) (some x25) none) fun x26 =>
  Copy 1 x13 x26 H fun _ H =>
  Fld 3 a0 H fun x31 =>
  Fld 2 a0 H fun x35 =>
  Get (arithV .sub .i64 x31 x35) fun x36 =>
  Get (nilV a0) fun x37 =>
  Get (fieldAddrV 3 x37) fun x38 =>
  Get (store1V x38 x36 H) fun H =>
  Get (nilV a0) fun x40 =>
  Get (fieldAddrV 2 x40) fun x41 =>
  Get (store1V x41 (.int .i64 0) H) fun H =>
  K1 [] H) (
  K1 [] H)) fun _ H =>
  Join (fun K3 =>
  Fld 3 a0 H fun x45 =>
  Fld 0 a0 H fun x49 =>
  Get (lenV x49) fun x50 =>
  Get (arithV .geq .i64 x45 x50) fun x51 =>
  Br x51 (
  Get (some (Value.iface 9 (.string ⟨#[98, 117, 102, 105, 111, 58, 32, 116, 114, 105, 101, 100, 32, 116, 111, 32, 102, 105, 108, 108, 32, 102, 117, 108, 108, 32, 98, 117, 102, 102, 101, 114]⟩))) fun _ =>
  False) (
  K3 [] H)) fun _ H =>
  Loop [(.int .i64 100)] H fun K5 vs6 H =>
  Get (arithV .gtr .i64 (nth vs6 0) (.int .i64 0)) fun x54 =>
  Br x54 (
  Fld 1 a0 H fun x61 =>
  Fld 0 a0 H fun x65 =>
  Fld 3 a0 H fun x69 =>
  Get (sliceV 1 x65 (some x69) none none) fun x70 =>
  Get (nilV x61) fun _ =>
  Invoke Tryz.prog "Read" x61 #[x70] H fun x73 H =>
  Get (extractV x73 0) fun x74 =>
  Get (extractV x73 1) fun x75 =>
  Join (fun K7 =>
  Get (arithV .lss .i64 x74 (.int .i64 0)) fun x77 =>
  Br x77 (
  Get (load1V (.pointer (some ⟨5, 0, none⟩)) H) fun _ =>
  False) (
  K7 [] H)) fun _ H =>
  Fld 3 a0 H fun x82 =>
  Get (arithV .add .i64 x82 x74) fun x84 =>
  Get (nilV a0) fun x85 =>
  Get (fieldAddrV 3 x85) fun x86 =>
  Get (store1V x86 x84 H) fun H =>
  Get (nilV2 .neq .nilIface x75) fun x88 =>
  Br x88 (
  Get (nilV a0) fun x91 =>
  Get (fieldAddrV 4 x91) fun x92 =>
  Get (store1V x92 x75 H) fun H =>
  R (.tuple #[]) H) (
  Get (arithV .gtr .i64 x74 (.int .i64 0)) fun x94 =>
  Br x94 (
  R (.tuple #[]) H) (
  Get (arithV .sub .i64 (nth vs6 0) (.int .i64 1)) fun x56 =>
  K5 [x56] H))) (
  Get (load1V (.pointer (some ⟨6, 0, none⟩)) H) fun x96 =>
  Get (nilV a0) fun x97 =>
  Get (fieldAddrV 4 x97) fun x98 =>
  Get (store1V x98 x96 H) fun H =>
  R (.tuple #[]) H)
def p112 : Plan := .join [] (.seq (.leaf []) (.cond (.seq (.leaf [0, 1, 2, 3, 4, 5, 6, 7, 8, 9, 10, 11, 12, 13, 14, 15, 16, 17]) (.seq (.leaf [0, 1, 2, 3, 4, 5, 6, 7, 8, 9, 10, 11]) (.leaf []))) (.leaf []))) (.join [] (.seq (.leaf [0, 1, 2, 3, 4, 5, 6, 7, 8, 9]) (.cond (.leaf []) (.leaf []))) (.seq (.seq (.leaf []) (.block (.loop [2] (.seq (.seq (.leaf []) (.cond (.leaf []) (.leaf []))) (.seq (.block (.seq (.leaf [0, 1, 2, 3, 4, 5, 6, 7, 8, 9, 10, 11, 12, 13, 14, 15, 16, 17, 18, 19, 20]) (.join [] (.seq (.leaf []) (.cond (.leaf []) (.leaf []))) (.seq (.leaf []) (.seq (.seq (.leaf []) (.cond (.seq (.leaf []) (.leaf [])) (.leaf []))) (.seq (.leaf []) (.cond (.leaf []) (.leaf [])))))))) (.leaf [])))))) (.leaf [])))
theorem s112 {a0 : Value} {H : Heap} {R : Value → Heap → Prop} (h : c112 a0 H R) : CallsH Tryz.prog 112 #[a0] H R :=
  callsH_of_eq p112 (fn := Tryz.f112) (c := Tryz.f112.body.getD .skip) (args := [a0]) Tryz.func112 (by kernel_rfl) mixed (by kernel_rfl) (by kernel_rfl) (by kernel_rfl) h

/-- (*pub/multipart.stickyErrorReader).Read -/
def c218 (a0 a1 : Value) (H : Heap) (R : Value → Heap → Prop) : Prop :=
  Fld 1 a0 H fun x9 =>
  Get (nilV2 .neq .nilIface x9) fun x10 =>
  Br x10 (
  Fld 1 a0 H fun x14 =>
  R (.tuple #[(.int .i64 0), x14]) H) (
  Fld 0 a0 H fun x20 =>
  Invoke Tryz.prog "Read" x20 #[a1] H fun x22 H =>
  Get (extractV x22 0) fun x23 =>
  Get (extractV x22 1) fun x24 =>
  Get (nilV a0) fun x25 =>
  Get (fieldAddrV 1 x25) fun x26 =>
  Get (store1V x26 x24 H) fun H =>
  Fld 1 a0 H fun x31 =>
  R (.tuple #[x23, x31]) H)
def p218 : Plan := .seq (.leaf []) (.seq (.seq (.leaf []) (.cond (.seq (.leaf [0, 1, 2, 3, 4, 5]) (.leaf [])) (.leaf []))) (.seq (.leaf []) (.seq (.leaf [0, 1, 2, 3, 4, 5, 6]) (.leaf []))))
theorem s218 {a0 a1 : Value} {H : Heap} {R : Value → Heap → Prop} (h : c218 a0 a1 H R) : CallsH Tryz.prog 218 #[a0, a1] H R :=
  callsH_of_eq p218 (fn := Tryz.f218) (c := Tryz.f218.body.getD .skip) (args := [a0, a1]) Tryz.func218 (by kernel_rfl) mixed (by kernel_rfl) (by kernel_rfl) (by kernel_rfl) h

/-- (*bytes.Reader).Read -/
def c220 (a0 a1 : Value) (H : Heap) (R : Value → Heap → Prop) : Prop :=
  Fld 1 a0 H fun x9 =>
  Fld 0 a0 H fun x13 =>
  Get (lenV x13) fun x14 =>
  Get (arithV .geq .i64 x9 x14) fun x15 =>
  Br x15 (
  Get (load1V (.pointer (some ⟨0, 0, none⟩)) H) fun x16 =>
  R (.tuple #[(.int .i64 0), x16]) H) (
  Get (nilV a0) fun x18 =>
  Get (fieldAddrV 2 x18) fun x19 =>
  Get (store1V x19 (.int .i64 (-1)) H) fun H =>
  Fld 0 a0 H fun x24 =>
  Fld 1 a0 H fun x28 =>
  Get (sliceV 1 x24 (some x28) none none) fun x29 =>
  Copy 1 a1 x29 H fun x30 H =>
  Fld 1 a0 H fun x34 =>
  Get (arithV .add .i64 x34 x30) fun x36 =>
  Get (nilV a0) fun x37 =>
  Get (fieldAddrV 1 x37) fun x38 =>
  Get (store1V x38 x36 H) fun H =>
  R (.tuple #[x30, .nilIface]) H)
def p220 : Plan := .seq (.leaf []) (.seq (.seq (.leaf [0, 1, 2, 3, 4, 5, 6, 7, 8, 9]) (.cond (.seq (.leaf [0, 1, 2]) (.leaf [])) (.leaf []))) (.seq (.leaf []) (.seq (.leaf [0, 1, 2, 3, 4, 5, 6, 7, 8, 9, 10, 11]) (.seq (.leaf []) (.leaf [])))))
theorem s220 {a0 a1 : Value} {H : Heap} {R : Value → Heap → Prop} (h : c220 a0 a1 H R) : CallsH Tryz.prog 220 #[a0, a1] H R :=
  callsH_of_eq p220 (fn := Tryz.f220) (c := Tryz.f220.body.getD .skip) (args := [a0, a1]) Tryz.func220 (by kernel_rfl) mixed (by kernel_rfl) (by kernel_rfl) (by kernel_rfl) h

/-- (*bufio.Reader).ReadSlice -/
def c93 (a0 a1 : Value) (H : Heap) (R : Value → Heap → Prop) : Prop :=
  Join (fun K1 =>
  Loop [.nilIface, (.int .i64 0)] H fun K2 vs3 H =>
  Fld 0 a0 H fun x12 =>
  Fld 2 a0 H fun x16 =>
  Get (arithV .add .i64 x16 (nth vs3 1)) fun x18 =>
  Fld 3 a0 H fun x22 =>
  Get (sliceV 1 x12 (some x18) (some x22) none) fun x23 =>
  CallsH Tryz.prog 109 #[x23, a1] H fun x25 H =>
  Get (arithV .geq .i64 x25 (.int .i64 0)) fun x27 =>
  Br x27 (
  Get (arithV .add .i64 x25 (nth vs3 1)) fun x30 =>
  Fld 0 a0 H fun x34 =>
  Fld 2 a0 H fun x38 =>
  Fld 2 a0 H fun x42 =>
  Get (arithV .add .i64 x42 x30) fun x44 =>
  Get (arithV .add .i64 x44 (.int .i64 1)) fun x45 =>
  Get (sliceV 1 x34 (some x38) (some x45) none) fun x46 =>
  Fld 2 a0 H fun x50 =>
  Get (arithV .add .i64 x30 (.int .i64 1)) fun x52 =>
  Get (arithV .add .i64 x50 x52) fun x53 =>
  Get (nilV a0) fun x54 =>
  Get (fieldAddrV 2 x54) fun x55 =>
  Get (store1V x55 x53 H) fun H =>
  K1 [x46, (nth vs3 0)] H) (
  Fld 4 a0 H fun x59 =>
  Get (nilV2 .neq .nilIface x59) fun x60 =>
  Br x60 (
  Fld 0 a0 H fun x64 =>
  Fld 2 a0 H fun x68 =>
  Fld 3 a0 H fun x72 =>
  Get (sliceV 1 x64 (some x68) (some x72) none) fun x73 =>
  Fld 3 a0 H fun x78 =>
  Get (nilV a0) fun x79 =>
  Get (fieldAddrV 2 x79) fun x80 =>
  Get (store1V x80 x78 H) fun H =>
  CallsH Tryz.prog 110 #[a0] H fun x82 H =>
  K1 [x73, x82] H) (
  Get (nilV a0) fun x86 =>
  Get (fieldAddrV 0 x86) fun x87 =>
  Get (load1V x87 H) fun x88 =>
  CallsH Tryz.prog 111 #[a0] H fun x84 H =>
  (load1V x87 H = some x88 ∧ True) ∧
  Get (lenV x88) fun x89 =>
  Get (arithV .geq .i64 x84 x89) fun x90 =>
  Br x90 (
  Fld 3 a0 H fun x95 =>
  Get (nilV a0) fun x96 =>
  Get (fieldAddrV 2 x96) fun x97 =>
  Get (store1V x97 x95 H) fun H =>
  Fld 0 a0 H fun x101 =>
  Get (load1V (.pointer (some ⟨4, 0, none⟩)) H) fun x102 =>
  K1 [x101, x102] H) (
  Fld 3 a0 H fun x106 =>
  Fld 2 a0 H fun x110 =>
  Get (arithV .sub .i64 x106 x110) fun x111 =>
  CallsH Tryz.prog 112 #[a0] H fun _ H =>
  K2 [(nth vs3 0), x111] H)))) fun vs4 H =>
  Join (fun K5 =>
  Get (lenV (nth vs4 0)) fun x115 =>
  Get (arithV .sub .i64 x115 (.int .i64 1)) fun x116 =>
  Get (arithV .geq .i64 x116 (.int .i64 0)) fun x118 =>
  Br x118 (
  Get (elemAddrV 1 (nth vs4 0) x116) fun x122 =>
  Get (load1V x122 H) fun x123 =>
  Get (intConvV .i64 x123) fun x124 =>
  Get (nilV a0) fun x125 =>
  Get (fieldAddrV 5 x125) fun x126 =>
  Get (store1V x126 x124 H) fun H =>
  Get (nilV a0) fun x128 =>
  Get (fieldAddrV 6 x128) fun x129 =>
  Get (store1V x129 (.int .i64 (-1)) H) fun H =>
  K5 [] H) (
  K5 [] H)) fun _ H =>
  R (.tuple #[(nth vs4 0), (nth vs4 1)]) H
def p93 : Plan := .seq (.leaf []) (.seq (.leaf []) (.join [4, 5] (.block (.loop [5, 6] (.block (.seq (.seq (.leaf [0, 1, 2, 3, 4, 5, 6, 7, 8, 9, 10, 11, 12, 13, 14, 15, 16, 17]) (.seq (.leaf []) (.cond (.seq (.leaf []) (.seq (.leaf [0, 1, 2, 3, 4, 5, 6, 7, 8, 9, 10, 11, 12, 13, 14, 15, 16]) (.seq (.leaf []) (.leaf [])))) (.leaf [])))) (.seq (.seq (.leaf []) (.cond (.seq (.leaf [0, 1, 2, 3, 4, 5, 6, 7, 8, 9, 10, 11, 12, 13]) (.seq (.leaf []) (.seq (.leaf []) (.leaf [])))) (.leaf []))) (.seq (.seq (.leaf [0, 2, 3, 4, 5, 1, 6, 7]) (.cond (.seq (.leaf []) (.seq (.leaf []) (.seq (.leaf []) (.leaf [])))) (.leaf []))) (.seq (.leaf [0, 1, 2, 3, 4, 5, 6, 7, 8, 9]) (.leaf [])))))))) (.join [] (.seq (.leaf []) (.seq (.leaf []) (.cond (.seq (.leaf []) (.leaf [])) (.leaf [])))) (.leaf []))))
theorem s93 {a0 a1 : Value} {H : Heap} {R : Value → Heap → Prop} (h : c93 a0 a1 H R) : CallsH Tryz.prog 93 #[a0, a1] H R :=
  callsH_of_eq p93 (fn := Tryz.f93) (c := Tryz.f93.body.getD .skip) (args := [a0, a1]) Tryz.func93 (by kernel_rfl) mixed (by kernel_rfl) (by kernel_rfl) (by kernel_rfl) h

end Go.Cps
