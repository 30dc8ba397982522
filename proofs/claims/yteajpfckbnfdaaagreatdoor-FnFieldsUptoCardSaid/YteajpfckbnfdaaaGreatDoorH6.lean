/-
  A part of the proof: What the bodies of some functions of the program come to, at heap level, each proved of the program itself. Contracts of small functions over byte slices: Equal, HasPrefix, IndexByte, skipLWSPChar, the two looks at a boundary's line. Contracts: skipLWSPChar, isFinalBoundary, isBoundaryDelimiterLine. Copying bytes; bytes.Reader.Read; the sticky reader's Read.
  Conditions: each contract's own.
-/
import Derived.Laws.Strings
import Derived.Test.YteajpfckbnfdaaaGreatDoorH4
import Derived.Test.YteajpfckbnfdaaaGreatDoorH5
set_option linter.all false
namespace Go.Cps
open Go Go.Proofs
set_option maxRecDepth 100000
def c58 (a0 a1 : Value) (H : Heap) (R : Value → Heap → Prop) : Prop :=
  Join (fun K1 =>
  Get (lenV a0) fun x6 =>
  Get (lenV a1) fun x8 =>
  Get (arithV .geq .i64 x6 x8) fun x9 =>
  Br x9 (
  Get (lenV a1) fun x13 =>
  Get (sliceV 1 a0 none (some x13) none) fun x14 =>
  CallsH Tryz.prog 27 #[x14, a1] H fun x16 H =>
  Get (pickV (.bool true) x16 (.bool false)) fun x17 =>
  K1 [x17] H) (
  Get (pickV (.bool false) undef (.bool false)) fun x17_1 =>
  K1 [x17_1] H)) fun vs2 H =>
  R (nth vs2 0) H
def p58 : Plan := .seq (.leaf []) (.join [4] (.leaf []) (.leaf []))
theorem s58 {a0 a1 : Value} {H : Heap} {R : Value → Heap → Prop} (h : c58 a0 a1 H R) : CallsH Tryz.prog 28 #[a0, a1] H R :=
  callsH_of_eq p58 (fn := Tryz.f28) (c := Tryz.f28.body.getD .skip) (args := [a0, a1]) Tryz.func28 (by kernel_rfl) mixed (by kernel_rfl) (by kernel_rfl) (by kernel_rfl) h
def c82 (a0 a1 : Value) (H : Heap) (R : Value → Heap → Prop) : Prop :=
  Get (bytesV a0 H) fun x6 =>
  Get (bytesV a1 H) fun x8 =>
  Get (strV .eql x6 x8) fun x9 =>
  R x9 H
def p82 : Plan := .seq (.leaf []) (.seq (.leaf []) (.leaf []))
theorem s82 {a0 a1 : Value} {H : Heap} {R : Value → Heap → Prop} (h : c82 a0 a1 H R) : CallsH Tryz.prog 27 #[a0, a1] H R :=
  callsH_of_eq p82 (fn := Tryz.f27) (c := Tryz.f27.body.getD .skip) (args := [a0, a1]) Tryz.func27 (by kernel_rfl) mixed (by kernel_rfl) (by kernel_rfl) (by kernel_rfl) h
def c109 (a0 a1 : Value) (H : Heap) (R : Value → Heap → Prop) : Prop :=
  CallX Tryz.prog 91 #[a0, a1] H fun x7 H =>
  R x7 H
def p109 : Plan := .seq (.leaf []) (.seq (.leaf []) (.leaf []))
theorem s109 {a0 a1 : Value} {H : Heap} {R : Value → Heap → Prop} (h : c109 a0 a1 H R) : CallsH Tryz.prog 59 #[a0, a1] H R :=
  callsH_of_eq p109 (fn := Tryz.f59) (c := Tryz.f59.body.getD .skip) (args := [a0, a1]) Tryz.func59 (by kernel_rfl) mixed (by kernel_rfl) (by kernel_rfl) (by kernel_rfl) h
def c113 (a0 : Value) (H : Heap) (R : Value → Heap → Prop) : Prop :=
  Loop [a0] H fun K1 vs2 H =>
  Join (fun K3 =>
  Get (lenV (nth vs2 0)) fun x4 =>
  Get (arithV .gtr .i64 x4 (.int .i64 0)) fun x5 =>
  Br x5 (
  Get (elemAddrV 1 (nth vs2 0) (.int .i64 0)) fun x8 =>
  Get (load1V x8 H) fun x9 =>
  Get (arithV .eql .u8 x9 (.int .u8 32)) fun x10 =>
  Br x10 (
  Get (pickV (.bool true) (.bool true) undef) fun x16 =>
  Get (pickV (.bool true) x16 (.bool false)) fun x17 =>
  K3 [x17] H) (
  Get (elemAddrV 1 (nth vs2 0) (.int .i64 0)) fun x13 =>
  Get (load1V x13 H) fun x14 =>
  Get (arithV .eql .u8 x14 (.int .u8 9)) fun x15 =>
  Get (pickV (.bool false) (.bool true) x15) fun x16_1 =>
  Get (pickV (.bool true) x16_1 (.bool false)) fun x17_1 =>
  K3 [x17_1] H)) (
  Get (pickV (.bool false) undef (.bool false)) fun x17_2 =>
  K3 [x17_2] H)) fun vs4 H =>
  Br (nth vs4 0) (
  Get (sliceV 1 (nth vs2 0) (some (.int .i64 1)) none none) fun x19 =>
  K1 [x19] H) (
  R (nth vs2 0) H)
def p113 : Plan := .seq (.leaf []) (.seq (.block (.loop [0] (.seq (.join [17] (.leaf []) (.cond (.leaf []) (.leaf []))) (.block (.leaf []))))) (.seq (.leaf []) (.leaf [])))
theorem s113 {a0 : Value} {H : Heap} {R : Value → Heap → Prop} (h : c113 a0 H R) : CallsH Tryz.prog 63 #[a0] H R :=
  callsH_of_eq p113 (fn := Tryz.f63) (c := Tryz.f63.body.getD .skip) (args := [a0]) Tryz.func63 (by kernel_rfl) mixed (by kernel_rfl) (by kernel_rfl) (by kernel_rfl) h
def c94 (a0 a1 : Value) (H : Heap) (R : Value → Heap → Prop) : Prop :=
  Fld 6 a0 H fun x10 =>
  CallsH Tryz.prog 28 #[a1, x10] H fun x11 H =>
  Get (unV .not x11) fun x12 =>
  Br x12 (
  R (.bool false) H) (
  Fld 6 a0 H fun x17 =>
  Get (lenV x17) fun x18 =>
  Get (sliceV 1 a1 (some x18) none none) fun x19 =>
  CallsH Tryz.prog 63 #[x19] H fun x21 H =>
  Join (fun K1 =>
  Get (lenV x21) fun x23 =>
  Get (arithV .eql .i64 x23 (.int .i64 0)) fun x24 =>
  Br x24 (
  Get (pickV (.bool true) (.bool true) undef) fun x32 =>
  K1 [x32] H) (
  Fld 4 a0 H fun x30 =>
  CallsH Tryz.prog 27 #[x21, x30] H fun x31 H =>
  Get (pickV (.bool false) (.bool true) x31) fun x32_1 =>
  K1 [x32_1] H)) fun vs2 H =>
  R (nth vs2 0) H)
def p94 : Plan := .seq (.leaf []) (.seq (.seq (.leaf []) (.cond (.seq (.leaf []) (.leaf [])) (.leaf []))) (.seq (.leaf []) (.seq (.leaf []) (.join [4] (.leaf []) (.leaf [])))))
theorem s94 {a0 a1 : Value} {H : Heap} {R : Value → Heap → Prop} (h : c94 a0 a1 H R) : CallsH Tryz.prog 46 #[a0, a1] H R :=
  callsH_of_eq p94 (fn := Tryz.f46) (c := Tryz.f46.body.getD .skip) (args := [a0, a1]) Tryz.func46 (by kernel_rfl) mixed (by kernel_rfl) (by kernel_rfl) (by kernel_rfl) h
def c95 (a0 a1 : Value) (H : Heap) (R : Value → Heap → Prop) : Prop :=
  Fld 7 a0 H fun x10 =>
  CallsH Tryz.prog 28 #[a1, x10] H fun x11 H =>
  Get (unV .not x11) fun x12 =>
  Br x12 (
  R (.bool false) H) (
  Fld 7 a0 H fun x17 =>
  Get (lenV x17) fun x18 =>
  Get (sliceV 1 a1 (some x18) none none) fun x19 =>
  CallsH Tryz.prog 63 #[x19] H fun x21 H =>
  Join (fun K1 =>
  Join (fun K2 =>
  Fld 3 a0 H fun x25 =>
  Get (arithV .eql .i64 x25 (.int .i64 0)) fun x26 =>
  Br x26 (
  Get (lenV x21) fun x29 =>
  Get (arithV .eql .i64 x29 (.int .i64 1)) fun x30 =>
  Get (pickV (.bool true) x30 (.bool false)) fun x31 =>
  Br x31 (
  Get (elemAddrV 1 x21 (.int .i64 0)) fun x34 =>
  Get (load1V x34 H) fun x35 =>
  Get (arithV .eql .u8 x35 (.int .u8 10)) fun x36 =>
  Get (pickV (.bool true) x36 (.bool false)) fun x37 =>
  K2 [x37] H) (
  Get (pickV (.bool false) undef (.bool false)) fun x37_1 =>
  K2 [x37_1] H)) (
  Get (pickV (.bool false) undef (.bool false)) fun x31_1 =>
  Br x31_1 (
  Get (elemAddrV 1 x21 (.int .i64 0)) fun x34_1 =>
  Get (load1V x34_1 H) fun x35_1 =>
  Get (arithV .eql .u8 x35_1 (.int .u8 10)) fun x36_1 =>
  Get (pickV (.bool true) x36_1 (.bool false)) fun x37_2 =>
  K2 [x37_2] H) (
  Get (pickV (.bool false) undef (.bool false)) fun x37_3 =>
  K2 [x37_3] H))) fun vs3 H =>
  Br (nth vs3 0) (
  Fld 4 a0 H fun x42 =>
  Get (sliceV 1 x42 (some (.int .i64 1)) none none) fun x43 =>
  Get (nilV a0) fun x44 =>
  Get (fieldAddrV 4 x44) fun x45 =>
  Get (store1V x45 x43 H) fun H =>
  Fld 5 a0 H fun x50 =>
  Get (sliceV 1 x50 (some (.int .i64 1)) none none) fun x51 =>
  Get (nilV a0) fun x52 =>
  Get (fieldAddrV 5 x52) fun x53 =>
  Get (store1V x53 x51 H) fun H =>
  K1 [] H) (
  K1 [] H)) fun _ H =>
  Fld 4 a0 H fun x58 =>
  CallsH Tryz.prog 27 #[x21, x58] H fun x59 H =>
  R x59 H)
def p95 : Plan := .seq (.leaf []) (.seq (.seq (.leaf []) (.cond (.seq (.leaf []) (.leaf [])) (.leaf []))) (.seq (.leaf []) (.seq (.leaf []) (.join [] (.join [37] (.leaf []) (.cond (.seq (.leaf []) (.leaf [])) (.leaf []))) (.seq (.leaf []) (.leaf []))))))
theorem s95 {a0 a1 : Value} {H : Heap} {R : Value → Heap → Prop} (h : c95 a0 a1 H R) : CallsH Tryz.prog 47 #[a0, a1] H R :=
  callsH_of_eq p95 (fn := Tryz.f47) (c := Tryz.f47.body.getD .skip) (args := [a0, a1]) Tryz.func47 (by kernel_rfl) mixed (by kernel_rfl) (by kernel_rfl) (by kernel_rfl) h
def c110 (a0 : Value) (H : Heap) (R : Value → Heap → Prop) : Prop :=
  Fld 4 a0 H fun x7 =>
  Get (nilV a0) fun x9 =>
  Get (fieldAddrV 4 x9) fun x10 =>
  Get (store1V x10 .nilIface H) fun H =>
  R x7 H
def p110 : Plan := .seq (.leaf []) (.seq (.leaf []) (.seq (.leaf []) (.seq (.leaf []) (.leaf []))))
theorem s110 {a0 : Value} {H : Heap} {R : Value → Heap → Prop} (h : c110 a0 H R) : CallsH Tryz.prog 60 #[a0] H R :=
  callsH_of_eq p110 (fn := Tryz.f60) (c := Tryz.f60.body.getD .skip) (args := [a0]) Tryz.func60 (by kernel_rfl) mixed (by kernel_rfl) (by kernel_rfl) (by kernel_rfl) h
def c111 (a0 : Value) (H : Heap) (R : Value → Heap → Prop) : Prop :=
  Fld 3 a0 H fun x6 =>
  Fld 2 a0 H fun x10 =>
  Get (arithV .sub .i64 x6 x10) fun x11 =>
  R x11 H
def p111 : Plan := .seq (.leaf []) (.seq (.leaf [0, 1, 2, 3, 4, 5, 6, 7, 8, 9]) (.leaf []))
theorem s111 {a0 : Value} {H : Heap} {R : Value → Heap → Prop} (h : c111 a0 H R) : CallsH Tryz.prog 61 #[a0] H R :=
  callsH_of_eq p111 (fn := Tryz.f61) (c := Tryz.f61.body.getD .skip) (args := [a0]) Tryz.func61 (by kernel_rfl) mixed (by kernel_rfl) (by kernel_rfl) (by kernel_rfl) h
def c112 (a0 : Value) (H : Heap) (R : Value → Heap → Prop) : Prop :=
  Join (fun K1 =>
  Fld 2 a0 H fun x8 =>
  Get (arithV .gtr .i64 x8 (.int .i64 0)) fun x9 =>
  Br x9 (
  Fld 0 a0 H fun x13 =>
  Fld 0 a0 H fun x17 =>
  Fld 2 a0 H fun x21 =>
  Fld 3 a0 H fun x25 =>
  Get (sliceV 1 x17 (some x21) (some x25) none) fun x26 =>
  Copy 1 x13 x26 H fun _ H =>
  Fld 3 a0 H fun x31 =>
  Fld 2 a0 H fun x35 =>
  Get (arithV .sub .i64 x31 x35) fun x36 =>
  Get (nilV a0) fun x37 =>
  Get (fieldAddrV 3 x37) fun x38 =>
  Get (store1V x38 x36 H) fun H =>
  Get (nilV a0) fun x40 =>
  Get (fieldAddrV 2 x40) fun x41 =>
  Get (store1V x41 (.int .i64 0) H) fun H =>
  K1 [] H) (
  K1 [] H)) fun _ H =>
  Join (fun K3 =>
  Fld 3 a0 H fun x45 =>
  Fld 0 a0 H fun x49 =>
  Get (lenV x49) fun x50 =>
  Get (arithV .geq .i64 x45 x50) fun x51 =>
  Br x51 (
  Get (some (Value.iface 9 (.string ⟨#[98, 117, 102, 105, 111, 58, 32, 116, 114, 105, 101, 100, 32, 116, 111, 32, 102, 105, 108, 108, 32, 102, 117, 108, 108, 32, 98, 117, 102, 102, 101, 114]⟩))) fun _ =>
  False) (
  K3 [] H)) fun _ H =>
  Loop [(.int .i64 100)] H fun K5 vs6 H =>
  Get (arithV .gtr .i64 (nth vs6 0) (.int .i64 0)) fun x54 =>
  Br x54 (
  Fld 1 a0 H fun x61 =>
  Fld 0 a0 H fun x65 =>
  Fld 3 a0 H fun x69 =>
  Get (sliceV 1 x65 (some x69) none none) fun x70 =>
  Get (nilV x61) fun _ =>
  Invoke Tryz.prog "Read" x61 #[x70] H fun x73 H =>
  Get (extractV x73 0) fun x74 =>
  Get (extractV x73 1) fun x75 =>
  Join (fun K7 =>
  Get (arithV .lss .i64 x74 (.int .i64 0)) fun x77 =>
  Br x77 (
  Get (load1V (.pointer (some ⟨4, 0, none⟩)) H) fun _ =>
  False) (
  K7 [] H)) fun _ H =>
  Fld 3 a0 H fun x82 =>
  Get (arithV .add .i64 x82 x74) fun x84 =>
  Get (nilV a0) fun x85 =>
  Get (fieldAddrV 3 x85) fun x86 =>
  Get (store1V x86 x84 H) fun H =>
  Get (nilV2 .neq .nilIface x75) fun x88 =>
  Br x88 (
  Get (nilV a0) fun x91 =>
  Get (fieldAddrV 4 x91) fun x92 =>
  Get (store1V x92 x75 H) fun H =>
  R (.tuple #[]) H) (
  Get (arithV .gtr .i64 x74 (.int .i64 0)) fun x94 =>
  Br x94 (
  R (.tuple #[]) H) (
  Get (arithV .sub .i64 (nth vs6 0) (.int .i64 1)) fun x56 =>
  K5 [x56] H))) (
  Get (load1V (.pointer (some ⟨5, 0, none⟩)) H) fun x96 =>
  Get (nilV a0) fun x97 =>
  Get (fieldAddrV 4 x97) fun x98 =>
  Get (store1V x98 x96 H) fun H =>
  R (.tuple #[]) H)
def p112 : Plan := .join [] (.seq (.leaf []) (.cond (.seq (.leaf [0, 1, 2, 3, 4, 5, 6, 7, 8, 9, 10, 11, 12, 13, 14, 15, 16, 17]) (.seq (.leaf [0, 1, 2, 3, 4, 5, 6, 7, 8, 9, 10, 11]) (.leaf []))) (.leaf []))) (.join [] (.seq (.leaf [0, 1, 2, 3, 4, 5, 6, 7, 8, 9]) (.cond (.leaf []) (.leaf []))) (.seq (.seq (.leaf []) (.block (.loop [2] (.seq (.seq (.leaf []) (.cond (.leaf []) (.leaf []))) (.seq (.block (.seq (.leaf [0, 1, 2, 3, 4, 5, 6, 7, 8, 9, 10, 11, 12, 13, 14, 15, 16, 17, 18, 19, 20]) (.join [] (.seq (.leaf []) (.cond (.leaf []) (.leaf []))) (.seq (.leaf []) (.seq (.seq (.leaf []) (.cond (.seq (.leaf []) (.leaf [])) (.leaf []))) (.seq (.leaf []) (.cond (.leaf []) (.leaf [])))))))) (.leaf [])))))) (.leaf [])))
theorem s112 {a0 : Value} {H : Heap} {R : Value → Heap → Prop} (h : c112 a0 H R) : CallsH Tryz.prog 62 #[a0] H R :=
  callsH_of_eq p112 (fn := Tryz.f62) (c := Tryz.f62.body.getD .skip) (args := [a0]) Tryz.func62 (by kernel_rfl) mixed (by kernel_rfl) (by kernel_rfl) (by kernel_rfl) h
def c218 (a0 a1 : Value) (H : Heap) (R : Value → Heap → Prop) : Prop :=
  Fld 1 a0 H fun x9 =>
  Get (nilV2 .neq .nilIface x9) fun x10 =>
  Br x10 (
  Fld 1 a0 H fun x14 =>
  R (.tuple #[(.int .i64 0), x14]) H) (
  Fld 0 a0 H fun x20 =>
  Invoke Tryz.prog "Read" x20 #[a1] H fun x22 H =>
  Get (extractV x22 0) fun x23 =>
  Get (extractV x22 1) fun x24 =>
  Get (nilV a0) fun x25 =>
  Get (fieldAddrV 1 x25) fun x26 =>
  Get (store1V x26 x24 H) fun H =>
  Fld 1 a0 H fun x31 =>
  R (.tuple #[x23, x31]) H)
def p218 : Plan := .seq (.leaf []) (.seq (.seq (.leaf []) (.cond (.seq (.leaf [0, 1, 2, 3, 4, 5]) (.leaf [])) (.leaf []))) (.seq (.leaf []) (.seq (.leaf [0, 1, 2, 3, 4, 5, 6]) (.leaf []))))
theorem s218 {a0 a1 : Value} {H : Heap} {R : Value → Heap → Prop} (h : c218 a0 a1 H R) : CallsH Tryz.prog 229 #[a0, a1] H R :=
  callsH_of_eq p218 (fn := Tryz.f229) (c := Tryz.f229.body.getD .skip) (args := [a0, a1]) Tryz.func229 (by kernel_rfl) mixed (by kernel_rfl) (by kernel_rfl) (by kernel_rfl) h
def c220 (a0 a1 : Value) (H : Heap) (R : Value → Heap → Prop) : Prop :=
  Fld 1 a0 H fun x9 =>
  Fld 0 a0 H fun x13 =>
  Get (lenV x13) fun x14 =>
  Get (arithV .geq .i64 x9 x14) fun x15 =>
  Br x15 (
  Get (load1V (.pointer (some ⟨0, 0, none⟩)) H) fun x16 =>
  R (.tuple #[(.int .i64 0), x16]) H) (
  Get (nilV a0) fun x18 =>
  Get (fieldAddrV 2 x18) fun x19 =>
  Get (store1V x19 (.int .i64 (-1)) H) fun H =>
  Fld 0 a0 H fun x24 =>
  Fld 1 a0 H fun x28 =>
  Get (sliceV 1 x24 (some x28) none none) fun x29 =>
  Copy 1 a1 x29 H fun x30 H =>
  Fld 1 a0 H fun x34 =>
  Get (arithV .add .i64 x34 x30) fun x36 =>
  Get (nilV a0) fun x37 =>
  Get (fieldAddrV 1 x37) fun x38 =>
  Get (store1V x38 x36 H) fun H =>
  R (.tuple #[x30, .nilIface]) H)
def p220 : Plan := .seq (.leaf []) (.seq (.seq (.leaf [0, 1, 2, 3, 4, 5, 6, 7, 8, 9]) (.cond (.seq (.leaf [0, 1, 2]) (.leaf [])) (.leaf []))) (.seq (.leaf []) (.seq (.leaf [0, 1, 2, 3, 4, 5, 6, 7, 8, 9, 10, 11]) (.seq (.leaf []) (.leaf [])))))
theorem s220 {a0 a1 : Value} {H : Heap} {R : Value → Heap → Prop} (h : c220 a0 a1 H R) : CallsH Tryz.prog 231 #[a0, a1] H R :=
  callsH_of_eq p220 (fn := Tryz.f231) (c := Tryz.f231.body.getD .skip) (args := [a0, a1]) Tryz.func231 (by kernel_rfl) mixed (by kernel_rfl) (by kernel_rfl) (by kernel_rfl) h
def c93 (a0 a1 : Value) (H : Heap) (R : Value → Heap → Prop) : Prop :=
  Join (fun K1 =>
  Loop [.nilIface, (.int .i64 0)] H fun K2 vs3 H =>
  Fld 0 a0 H fun x12 =>
  Fld 2 a0 H fun x16 =>
  Get (arithV .add .i64 x16 (nth vs3 1)) fun x18 =>
  Fld 3 a0 H fun x22 =>
  Get (sliceV 1 x12 (some x18) (some x22) none) fun x23 =>
  CallsH Tryz.prog 59 #[x23, a1] H fun x25 H =>
  Get (arithV .geq .i64 x25 (.int .i64 0)) fun x27 =>
  Br x27 (
  Get (arithV .add .i64 x25 (nth vs3 1)) fun x30 =>
  Fld 0 a0 H fun x34 =>
  Fld 2 a0 H fun x38 =>
  Fld 2 a0 H fun x42 =>
  Get (arithV .add .i64 x42 x30) fun x44 =>
  Get (arithV .add .i64 x44 (.int .i64 1)) fun x45 =>
  Get (sliceV 1 x34 (some x38) (some x45) none) fun x46 =>
  Fld 2 a0 H fun x50 =>
  Get (arithV .add .i64 x30 (.int .i64 1)) fun x52 =>
  Get (arithV .add .i64 x50 x52) fun x53 =>
  Get (nilV a0) fun x54 =>
  Get (fieldAddrV 2 x54) fun x55 =>
  Get (store1V x55 x53 H) fun H =>
  K1 [x46, (nth vs3 0)] H) (
  Fld 4 a0 H fun x59 =>
  Get (nilV2 .neq .nilIface x59) fun x60 =>
  Br x60 (
  Fld 0 a0 H fun x64 =>
  Fld 2 a0 H fun x68 =>
  Fld 3 a0 H fun x72 =>
  Get (sliceV 1 x64 (some x68) (some x72) none) fun x73 =>
  Fld 3 a0 H fun x78 =>
  Get (nilV a0) fun x79 =>
  Get (fieldAddrV 2 x79) fun x80 =>
  Get (store1V x80 x78 H) fun H =>
  CallsH Tryz.prog 60 #[a0] H fun x82 H =>
  K1 [x73, x82] H) (
  Get (nilV a0) fun x86 =>
  Get (fieldAddrV 0 x86) fun x87 =>
  Get (load1V x87 H) fun x88 =>
  CallsH Tryz.prog 61 #[a0] H fun x84 H =>
  (load1V x87 H = some x88 ∧ True) ∧
  Get (lenV x88) fun x89 =>
  Get (arithV .geq .i64 x84 x89) fun x90 =>
  Br x90 (
  Fld 3 a0 H fun x95 =>
  Get (nilV a0) fun x96 =>
  Get (fieldAddrV 2 x96) fun x97 =>
  Get (store1V x97 x95 H) fun H =>
  Fld 0 a0 H fun x101 =>
  Get (load1V (.pointer (some ⟨1, 0, none⟩)) H) fun x102 =>
  K1 [x101, x102] H) (
  Fld 3 a0 H fun x106 =>
  Fld 2 a0 H fun x110 =>
  Get (arithV .sub .i64 x106 x110) fun x111 =>
  CallsH Tryz.prog 62 #[a0] H fun _ H =>
  K2 [(nth vs3 0), x111] H)))) fun vs4 H =>
  Join (fun K5 =>
  Get (lenV (nth vs4 0)) fun x115 =>
  Get (arithV .sub .i64 x115 (.int .i64 1)) fun x116 =>
  Get (arithV .geq .i64 x116 (.int .i64 0)) fun x118 =>
  Br x118 (
  Get (elemAddrV 1 (nth vs4 0) x116) fun x122 =>
  Get (load1V x122 H) fun x123 =>
  Get (intConvV .i64 x123) fun x124 =>
  Get (nilV a0) fun x125 =>
  Get (fieldAddrV 5 x125) fun x126 =>
  Get (store1V x126 x124 H) fun H =>
  Get (nilV a0) fun x128 =>
  Get (fieldAddrV 6 x128) fun x129 =>
  Get (store1V x129 (.int .i64 (-1)) H) fun H =>
  K5 [] H) (
  K5 [] H)) fun _ H =>
  R (.tuple #[(nth vs4 0), (nth vs4 1)]) H
def p93 : Plan := .seq (.leaf []) (.seq (.leaf []) (.join [4, 5] (.block (.loop [5, 6] (.block (.seq (.seq (.leaf [0, 1, 2, 3, 4, 5, 6, 7, 8, 9, 10, 11, 12, 13, 14, 15, 16, 17]) (.seq (.leaf []) (.cond (.seq (.leaf []) (.seq (.leaf [0, 1, 2, 3, 4, 5, 6, 7, 8, 9, 10, 11, 12, 13, 14, 15, 16]) (.seq (.leaf []) (.leaf [])))) (.leaf [])))) (.seq (.seq (.leaf []) (.cond (.seq (.leaf [0, 1, 2, 3, 4, 5, 6, 7, 8, 9, 10, 11, 12, 13]) (.seq (.leaf []) (.seq (.leaf []) (.leaf [])))) (.leaf []))) (.seq (.seq (.leaf [0, 2, 3, 4, 5, 1, 6, 7]) (.cond (.seq (.leaf []) (.seq (.leaf []) (.seq (.leaf []) (.leaf [])))) (.leaf []))) (.seq (.leaf [0, 1, 2, 3, 4, 5, 6, 7, 8, 9]) (.leaf [])))))))) (.join [] (.seq (.leaf []) (.seq (.leaf []) (.cond (.seq (.leaf []) (.leaf [])) (.leaf [])))) (.leaf []))))
theorem s93 {a0 a1 : Value} {H : Heap} {R : Value → Heap → Prop} (h : c93 a0 a1 H R) : CallsH Tryz.prog 45 #[a0, a1] H R :=
  callsH_of_eq p93 (fn := Tryz.f45) (c := Tryz.f45.body.getD .skip) (args := [a0, a1]) Tryz.func45 (by kernel_rfl) mixed (by kernel_rfl) (by kernel_rfl) (by kernel_rfl) h
end Go.Cps
namespace Go.Cps
open Go Go.Proofs
theorem Join_direct {A : (List Value → Heap → Prop) → Prop} {B : List Value → Heap → Prop} (h : A B) : Join A B := ⟨B, h, fun _ _ h => h⟩
theorem toList_mk (l : List UInt8) : (⟨l.toArray⟩ : ByteArray).toList = l := by
  rw [ByteArray.toList_eq]
theorem equal_ok {v w : Value} {a b : List UInt8} {H : Heap} (ha : IsBytes H v a) (hb : IsBytes H w b) :
    CallsH Tryz.prog 27 #[v, w] H fun x H' => x = .bool (a == b) ∧ H' = H := by
  apply s82
  simp only [c82, ha.str, hb.str, Q6, strV_eql, toList_mk, and_self]
theorem hasPrefix_ok {v w : Value} {a b : List UInt8} {H : Heap} (ha : IsBytes H v a) (hb : IsBytes H w b) :
    CallsH Tryz.prog 28 #[v, w] H fun x H' => x = .bool (b.isPrefixOf a) ∧ H' = H := by
  apply s58
  simp only [c58, ha.len, hb.len, Q6, Qr]
  refine Join_direct ?_
  by_cases hle : b.length ≤ a.length
  · have hd : decide ((a.length : Int) ≥ (b.length : Int)) = true := by simp; omega
    rw [hd, Q7]
    rcases ha with ⟨ba, o, c, rfl, hc, hcell⟩ | ⟨a', rfl, rfl⟩
    · have hsub := IsBytes.sub (.inl ⟨ba, o, c, rfl, hc, hcell⟩) (Nat.zero_le b.length) hle
      have e1 : (if c = 0 then (⟨ba, o, none⟩ : Addr) else ⟨ba, o + 0, none⟩) = ⟨ba, o, none⟩ := by split <;> rfl
      rw [e1] at hsub
      simp only [Nat.sub_zero, List.drop_zero] at hsub
      rw [sliceV_hi (by omega), Q6]
      refine (equal_ok hsub hb).mono ?_
      rintro x H' ⟨rfl, rfl⟩
      simp only [Qg, Q6, if_true, Q9, and_true, Value.bool.injEq]
      rw [Bool.eq_iff_iff, beq_iff_eq, List.isPrefixOf_iff_prefix, List.prefix_iff_eq_take]
      exact eq_comm
    · have : b = [] := List.eq_nil_of_length_eq_zero (by simpa using hle)
      subst this
      simp only [List.length_nil]
      rw [show ((0 : Nat) : Int) = ((0 : Nat) : Int) from rfl, sliceV_hi (Nat.zero_le _), Q6]
      refine (equal_ok (.inr ⟨a', rfl, rfl⟩) hb).mono ?_
      rintro x H' ⟨rfl, rfl⟩
      simp
  · have hd : decide ((a.length : Int) ≥ (b.length : Int)) = false := by simp; omega
    rw [hd, Q8]
    simp only [Qg, Q6, Bool.false_eq_true, if_false, Q9, and_true, Value.bool.injEq]
    rw [eq_comm, ← Bool.not_eq_true, List.isPrefixOf_iff_prefix]
    exact fun h => hle h.length_le
theorem loadBytes_run {P : Program} {H : Heap} {b : Nat} (w : World) (hw : w.heap = H) : ∀ (l : List UInt8) (o : Nat) (acc : ByteArray), (∀ j, j < l.length → cellH H ⟨b, o + j, none⟩ = (l[j]?).map byteV) →
    (Extern.Bytes.loadBytes ⟨b, o, none⟩ l.length acc).run P w = .ok ⟨acc.data ++ l.toArray⟩ w
  | [], o, acc, _ => by simp [Extern.Bytes.loadBytes]
  | x :: r, o, acc, h => by
    have h0 := h 0 (by simp)
    simp only [Nat.add_zero, List.getElem?_cons_zero, Option.map_some] at h0
    have hl : (load ⟨b, o, none⟩).run P w = .ok (byteV x) w := by
      have : w.cell? ⟨b, o, none⟩ = some (byteV x) := by rw [cellH_eq, hw]; exact h0
      simp [load, Sem.run, this]
    have ih := loadBytes_run (P := P) w hw r (o + 1) (acc.push x) (fun j hj => by
      have := h (j + 1) (by simp; omega)
      rw [show o + 1 + j = o + (j + 1) by omega, this]
      simp)
    simp only [List.length_cons, Extern.Bytes.loadBytes, Sem.run_bind, hl, Result.andThen_ok, byteV, Q1]
    have e : ((x.toNat : Int).toNat.toUInt8) = x := by simp
    rw [e, ih]
    simp [ByteArray.push]
def idx (l : List UInt8) (c : UInt8) : Int := match l.findIdx? (· == c) with | some i => i | none => -1
theorem find_range (p : UInt8 → Bool) : ∀ (l : List UInt8) (k : Nat) (f : Nat → UInt8), (∀ j, j < l.length → f (k + j) = l[j]!) →
    ((List.range' k l.length).find? fun i => p (f i)) = (l.findIdx? p).map (· + k)
  | [], k, f, _ => rfl
  | x :: r, k, f, h => by
    have h0 := h 0 (by simp)
    simp only [Nat.add_zero] at h0
    have ih := find_range p r (k + 1) f (fun j hj => by
      have := h (j + 1) (by simp; omega)
      rw [show k + 1 + j = k + (j + 1) by omega, this]
      simp)
    rw [List.length_cons, List.range'_succ, List.find?_cons, List.findIdx?_cons]
    have e : f k = x := by rw [h0]; rfl
    rw [e]
    cases hp : p x with
    | true => simp
    | false =>
      simp only [ih, Bool.false_eq_true, if_false]
      cases r.findIdx? p <;> simp; omega
theorem indexByte_ok {v : Value} {a : List UInt8} {H : Heap} (ha : IsBytes H v a) (c : UInt8) :
    CallsH Tryz.prog 59 #[v, .int .u8 c.toNat] H fun x H' => x = .int .i64 (idx a c) ∧ H' = H := by
  apply s109
  refine ⟨Tryz.f91, Extern.BytealgIndexByte.indexByte, Tryz.func91, by kernel_rfl, by kernel_rfl, by kernel_rfl, by kernel_rfl, ?_⟩
  intro w hw
  have hb : (Extern.Bytes.bytesOf v).run Tryz.prog w = .ok ⟨a.toArray⟩ w := by
    rcases ha with ⟨b, o, cp, rfl, _, hcell⟩ | ⟨a', rfl, rfl⟩
    · have := loadBytes_run (P := Tryz.prog) w hw a o .empty hcell
      simp only [Extern.Bytes.bytesOf, this]
      congr 2
      simp
    · cases a' <;> rfl
  have hc : (Extern.Bytes.asByte (.int .u8 c.toNat)).run Tryz.prog w = .ok c w := by simp [Extern.Bytes.asByte]
  have hf := find_range (· == c) a 0 (fun i => (⟨a.toArray⟩ : ByteArray)[i]!) (fun j hj => by
    rw [Nat.zero_add]
    have e1 : (ByteArray.mk a.toArray)[j]! = a[j] := getElem!_pos (ByteArray.mk a.toArray) j (by simpa [ByteArray.size] using hj)
    rw [e1, getElem!_pos a j hj])
  show match (do
      let b ← Extern.Bytes.bytesOf v
      let c ← Extern.Bytes.asByte (.int .u8 c.toNat)
      match (List.range b.size).find? fun i => b[i]! == c with
      | some i => pure (goInt i)
      | none => pure (goInt (-1)) : Sem Value).run Tryz.prog w with
    | .ok v w' => Same w w' ∧ v = .int .i64 (idx a c) ∧ w'.heap = H
    | .halt _ _ => False
  simp only [Sem.run_bind, hb, hc, Result.andThen_ok]
  have hs : (⟨a.toArray⟩ : ByteArray).size = a.length := by simp [ByteArray.size]
  rw [hs, List.range_eq_range', hf]
  unfold idx
  cases a.findIdx? (· == c) with
  | none => simp [goInt]; exact ⟨Same.refl w, hw⟩
  | some i => simp [goInt]; exact ⟨Same.refl w, hw⟩
end Go.Cps
namespace Go.Cps
open Go Go.Proofs
def lws (b : UInt8) : Bool := b == 32 || b == 9
theorem byte_beq (b c : UInt8) : (((b.toNat : Nat) : Int) == ((c.toNat : Nat) : Int)) = (b == c) := by
  rw [Bool.eq_iff_iff, beq_iff_eq, beq_iff_eq]
  constructor
  · intro e; exact UInt8.toNat_inj.1 (by omega)
  · rintro rfl; rfl
theorem skip_ok {v : Value} {l : List UInt8} {H : Heap} (hv : IsBytes H v l) : CallsH Tryz.prog 63 #[v] H fun x H' => H' = H ∧ IsBytes H x (l.dropWhile lws) := by
  apply s113
  unfold c113
  refine ⟨fun n vs H' => ∃ u m, vs = [u] ∧ n = m.length ∧ H' = H ∧ IsBytes H u m ∧ m.dropWhile lws = l.dropWhile lws, ⟨_, v, l, rfl, rfl, rfl, hv, rfl⟩, ?_⟩
  rintro n vs H' ⟨u, m, rfl, rfl, rfl, hu, hm⟩
  simp only [Q9, hu.len, Q6, Qq]
  cases m with
  | nil =>
    refine ⟨fun vs H => vs = [.bool false] ∧ H = H', by simp, ?_⟩
    rintro _ _ ⟨rfl, rfl⟩
    simp only [Q9, Q8, true_and]
    rw [← hm]
    exact hu
  | cons b r =>
    rcases hu with ⟨bb, o, c, rfl, hc, hcell⟩ | ⟨_, h⟩
    · have h0 := hcell 0 (by simp)
      simp only [Nat.add_zero, List.getElem?_cons_zero, Option.map_some] at h0
      have he : elemAddrV 1 (.slice (some ⟨bb, o, none⟩) (b :: r).length c) (.int .i64 0) = some (.pointer (some ⟨bb, o, none⟩)) := by
        rw [elemAddr_of (by omega) (by simp)]; simp
      have hlt : decide (((b :: r).length : Int) > 0) = true := by simp
      refine ⟨fun vs H => vs = [.bool (lws b)] ∧ H = H', ?_, ?_⟩
      · simp only [hlt, Q7, he, Q6, Qf, h0, byteV, Qm, Qg, if_true, Bool.false_eq_true, if_false]
        have e32 : (((b.toNat : Nat) : Int) == 32) = (b == 32) := byte_beq b 32
        have e9 : (((b.toNat : Nat) : Int) == 9) = (b == 9) := byte_beq b 9
        rw [e32, e9]
        refine Br_intro (fun h => ?_) (fun h => ?_)
        · simp [lws, h]
        · simp [lws, h]
      · rintro _ _ ⟨rfl, rfl⟩
        simp only [Q9]
        refine Br_intro (fun h => ?_) (fun h => ?_)
        · rw [show (Value.int .i64 1) = .int .i64 ((1 : Nat) : Int) from rfl, sliceV_lo (lo := 1) (by simp), Q6]
          refine ⟨r.length, by simp, _, r, rfl, rfl, trivial, ?_, ?_⟩
          · have := IsBytes.sub (lo := 1) (hi := (b :: r).length) (.inl ⟨bb, o, c, rfl, hc, hcell⟩) (by simp) (Nat.le_refl _)
            simpa [apply_ite] using this
          · rw [← hm, List.dropWhile_cons, if_pos h]
        · refine ⟨trivial, ?_⟩
          rw [← hm, List.dropWhile_cons, if_neg (by simp [h])]
          exact .inl ⟨bb, o, c, rfl, hc, hcell⟩
    · simp at h
theorem IsBytes.from' {H : Heap} {v : Value} {l : List UInt8} (hl : IsBytes H v l) {lo : Nat} (hle : lo ≤ l.length) (k : IntKind) : ∃ u, sliceV 1 v (some (.int k lo)) none none = some u ∧ IsBytes H u (l.drop lo) := by
  rcases hl with ⟨bb, o, c, rfl, hc, hcell⟩ | ⟨a', rfl, rfl⟩
  · refine ⟨_, sliceV_lo hle _, ?_⟩
    have := IsBytes.sub (lo := lo) (hi := l.length) (.inl ⟨bb, o, c, rfl, hc, hcell⟩) hle (Nat.le_refl _)
    simpa [apply_ite] using this
  · have : lo = 0 := by simpa using hle
    subst this
    exact ⟨.slice a' 0 0, by cases a' <;> rfl, .inr ⟨a', rfl, rfl⟩⟩
structure MRf where
  br : Value
  tmp : Value
  cur : Value
  parts : Int
  nl : Value
  nld : Value
  dd : Value
  dash : Value
def MRf.cells (m : MRf) : Array Value := #[m.br, m.tmp, m.cur, .int .i64 m.parts, m.nl, m.nld, m.dd, m.dash]
def finalLine (line dd nl : List UInt8) : Bool :=
  dd.isPrefixOf line && (((line.drop dd.length).dropWhile lws).isEmpty || (line.drop dd.length).dropWhile lws == nl)
theorem isFinal_ok {mr : Nat} {m : MRf} {T : TypeId} {line : Value} {l dd nl : List UInt8} {H : Heap} (hm : H[mr]? = some (.cells m.cells T (0, 0))) (hl : IsBytes H line l) (hdd : IsBytes H m.dd dd) (hnl : IsBytes H m.nl nl) :
    CallsH Tryz.prog 46 #[.pointer (some ⟨mr, 0, none⟩), line] H fun x H' => x = .bool (finalLine l dd nl) ∧ H' = H := by
  apply s94
  have c6 : cellH H ⟨mr, 6, none⟩ = some m.dd := by rw [cellH_of hm]; rfl
  have c4 : cellH H ⟨mr, 4, none⟩ = some m.nl := by rw [cellH_of hm]; rfl
  simp only [c94, Q0, Q1, Nat.zero_add, c6, Q6]
  refine (hasPrefix_ok hl hdd).mono ?_
  rintro x H' ⟨rfl, rfl⟩
  simp only [Qh, Q6]
  refine Br_intro (fun h => ?_) (fun h => ?_)
  · simp only [Bool.not_eq_true'] at h
    simp [finalLine, h]
  · simp only [Bool.not_eq_false'] at h
    have hle : dd.length ≤ l.length := (List.isPrefixOf_iff_prefix.1 h).length_le
    simp only [c6, hdd.len, Q6]
    have hsub := hl.from' hle .i64
    obtain ⟨u, hu, hub⟩ := hsub
    rw [hu, Q6]
    refine (skip_ok hub).mono ?_
    rintro y H'' ⟨rfl, hy⟩
    simp only [hy.len, Q6, Qm]
    refine Join_direct ?_
    refine Br_intro (fun h2 => ?_) (fun h2 => ?_)
    · simp only [Qg, if_true, Q6, Q9, and_true, Value.bool.injEq]
      have : (l.drop dd.length).dropWhile lws = [] := List.eq_nil_of_length_eq_zero (by simpa using h2)
      simp [finalLine, h, this]
    · simp only [c4, Q6]
      refine (equal_ok hy hnl).mono ?_
      rintro z H3 ⟨rfl, rfl⟩
      simp only [Qg, Bool.false_eq_true, if_false, Q6, Q9, and_true, Value.bool.injEq]
      have : ((l.drop dd.length).dropWhile lws).isEmpty = false := by
        rw [List.isEmpty_eq_false_iff]
        intro e
        rw [e] at h2
        simp at h2
      simp [finalLine, h, this]
def delimLine (line dash nl : List UInt8) : Bool := dash.isPrefixOf line && ((line.drop dash.length).dropWhile lws == nl)
theorem isDelim_ok {mr : Nat} {m : MRf} {T : TypeId} {line : Value} {l dash nl : List UInt8} {H : Heap} (hm : H[mr]? = some (.cells m.cells T (0, 0))) (hl : IsBytes H line l) (hd : IsBytes H m.dash dash) (hnl : IsBytes H m.nl nl)
    (h10 : (l.drop dash.length).dropWhile lws ≠ [10]) :
    CallsH Tryz.prog 47 #[.pointer (some ⟨mr, 0, none⟩), line] H fun x H' => x = .bool (delimLine l dash nl) ∧ H' = H := by
  apply s95
  have c7 : cellH H ⟨mr, 7, none⟩ = some m.dash := by rw [cellH_of hm]; rfl
  have c4 : cellH H ⟨mr, 4, none⟩ = some m.nl := by rw [cellH_of hm]; rfl
  have c3 : cellH H ⟨mr, 3, none⟩ = some (.int .i64 m.parts) := by rw [cellH_of hm]; rfl
  simp only [c95, Q0, Q1, Nat.zero_add, c7, Q6]
  refine (hasPrefix_ok hl hd).mono ?_
  rintro x H' ⟨rfl, rfl⟩
  simp only [Qh, Q6]
  refine Br_intro (fun h => ?_) (fun h => ?_)
  · simp only [Bool.not_eq_true'] at h
    simp [delimLine, h]
  · simp only [Bool.not_eq_false'] at h
    have hle : dash.length ≤ l.length := (List.isPrefixOf_iff_prefix.1 h).length_le
    simp only [c7, hd.len, Q6]
    obtain ⟨u, hu, hub⟩ := hl.from' hle .i64
    rw [hu, Q6]
    refine (skip_ok hub).mono ?_
    rintro y H'' ⟨rfl, hy⟩
    refine ⟨fun _ H => H = H'', ?_, ?_⟩
    · refine ⟨fun vs H => vs = [.bool false] ∧ H = H'', ?_, ?_⟩
      · simp only [c3, Q6, Qm, hy.len, Qg, if_true, Bool.false_eq_true, if_false, Q8]
        refine Br_intro (fun h2 => ?_) (fun h2 => by simp)
        refine Br_intro (fun h3 => ?_) (fun h3 => by simp)
        have hlen : ((l.drop dash.length).dropWhile lws).length = 1 := by
          rw [beq_iff_eq] at h3; omega
        rcases hy with ⟨bb, o, c, rfl, hc, hcell⟩ | ⟨_, _, hnil⟩
        · have h0 := hcell 0 (by omega)
          obtain ⟨b, hb⟩ := List.length_eq_one_iff.1 hlen
          rw [hb] at h0 h10 ⊢
          simp only [Nat.add_zero, List.getElem?_cons_zero, Option.map_some] at h0
          have he : elemAddrV 1 (.slice (some ⟨bb, o, none⟩) 1 c) (.int .i64 0) = some (.pointer (some ⟨bb, o, none⟩)) := by
            rw [elemAddr_of (by omega) (by simp)]; simp
          have e10 : (((b.toNat : Nat) : Int) == 10) = (b == 10) := byte_beq b 10
          have hne : (b == 10) = false := by
            rw [beq_eq_false_iff_ne]
            rintro rfl
            exact h10 rfl
          simp [he, h0, byteV, e10, hne]
        · rw [hnil] at hlen
          simp at hlen
      · rintro _ _ ⟨rfl, rfl⟩
        simp
    · rintro _ _ rfl
      simp only [c4, Q6]
      refine (equal_ok hy hnl).mono ?_
      rintro z H3 ⟨rfl, rfl⟩
      simp [delimLine, h]
end Go.Cps
namespace Go.Cps
open Go Go.Proofs
def putAt (cs : Array Value) : Nat → List Value → Array Value
  | _, [] => cs
  | o, v :: r => putAt (cs.setIfInBounds o v) (o + 1) r
@[simp] theorem putAt_size : ∀ (vs : List Value) (cs : Array Value) (o : Nat), (putAt cs o vs).size = cs.size
  | [], _, _ => rfl
  | v :: r, cs, o => by simp [putAt, putAt_size r]
theorem putAt_get : ∀ (vs : List Value) (cs : Array Value) (o i : Nat), o + vs.length ≤ cs.size → (putAt cs o vs)[i]? = if o ≤ i ∧ i < o + vs.length then vs[i - o]? else cs[i]?
  | [], cs, o, i, _ => by simp [putAt]; omega
  | v :: r, cs, o, i, h => by
    simp only [List.length_cons] at h
    rw [putAt, putAt_get r _ (o + 1) i (by simp; omega)]
    by_cases h1 : o + 1 ≤ i ∧ i < o + 1 + r.length
    · rw [if_pos h1, if_pos ⟨by omega, by simp; omega⟩]
      rw [show i - o = (i - (o + 1)) + 1 by omega, List.getElem?_cons_succ]
    · rw [if_neg h1, Array.getElem?_setIfInBounds]
      by_cases h2 : o = i
      · subst h2
        rw [if_pos rfl, if_pos (by omega), if_pos ⟨Nat.le_refl _, by simp⟩]
        simp
      · rw [if_neg h2, if_neg (by simp; omega)]
theorem upd_upd (H : Heap) (b : Nat) (o p : Obj) : upd (upd H b o) b p = upd H b p := by
  apply Array.ext_getElem?
  intro k
  simp only [upd, Array.getElem?_setIfInBounds, Array.size_setIfInBounds]
  split <;> rfl
theorem stores_upd : ∀ (vs : List Value) (H : Heap) (b o i : Nat) (cs : Array Value) (t : TypeId), H[b]? = some (.cells cs t (0, 0)) → o + i + vs.length ≤ cs.size → (∀ v ∈ vs, isOne v = true) →
    storesH ⟨b, o, none⟩ i vs H = some (upd H b (.cells (putAt cs (o + i) vs) t (0, 0)))
  | [], H, b, o, i, cs, t, h, _, _ => by
    simp only [storesH, putAt, Option.some.injEq]
    apply Array.ext_getElem?
    intro k
    by_cases hk : b = k
    · subst hk; rw [upd_same (lt_of_some h), h]
    · rw [upd_ne hk]
  | v :: r, H, b, o, i, cs, t, h, hle, hv => by
    simp only [List.length_cons] at hle
    have h1 : (cellH H ⟨b, o + i, none⟩).isSome = true := by rw [cellH_of h]; simp; omega
    have h2 : frozenH H ⟨b, o + i, none⟩ = false := by simp [frozenH, h]
    have hv1 := hv v List.mem_cons_self
    simp only [storesH, Q1, hv1, h1, h2, Bool.and_true, Bool.not_false, if_true, setH_eq_upd h]
    rw [stores_upd r _ b o (i + 1) _ t (upd_same (lt_of_some h)) (by simp; omega) (fun v hv' => hv v (List.mem_cons_of_mem _ hv')), upd_upd]
    rw [putAt, Nat.add_assoc]
theorem IsBytes.elems {H : Heap} {v : Value} {l : List UInt8} (h : IsBytes H v l) {m : Nat} (hm : m ≤ l.length) : elemsV 1 m v H = some ((l.take m).map byteV) ∧ countV v = some l.length := by
  rcases h with ⟨b, o, c, rfl, _, hc⟩ | ⟨a', rfl, rfl⟩
  · refine ⟨?_, rfl⟩
    simp only [elemsV, Nat.mul_one]
    refine (cellsH_getElem _ _ _).2 ⟨by simp; omega, fun j hj => ?_⟩
    rw [Nat.zero_add, hc j (by omega)]
    simp [hj]
  · have : m = 0 := by simpa using hm
    subst this
    exact ⟨by cases a' <;> rfl, rfl⟩
theorem copy_of {H : Heap} {bf o dl dc : Nat} {cs : Array Value} {t : TypeId} {x : Value} {l : List UInt8} {K : Value → Heap → Prop} (hb : H[bf]? = some (.cells cs t (0, 0))) (hx : IsBytes H x l) (hle : o + dl ≤ cs.size)
    (h : K (.int .i64 (min l.length dl : Nat)) (upd H bf (.cells (putAt cs o ((l.take (min l.length dl)).map byteV)) t (0, 0)))) : Copy 1 (.slice (some ⟨bf, o, none⟩) dl dc) x H K := by
  obtain ⟨h1, h2⟩ := hx.elems (m := min l.length dl) (Nat.min_le_left _ _)
  refine ⟨_, dl, dc, l.length, _, rfl, h2, h1, _, stores_upd _ H bf o 0 cs t hb (by simp; omega) (fun v hv => by
    obtain ⟨b, _, rfl⟩ := List.mem_map.1 hv; rfl), h⟩
def EOFat (H : Heap) (E : Value) : Prop := ∃ t f, H[0]? = some (.cells #[E] t f)
theorem EOFat.load {H : Heap} {E : Value} (h : EOFat H E) : cellH H ⟨0, 0, none⟩ = some E := by
  obtain ⟨t, f, h⟩ := h
  rw [cellH_of h]; rfl
theorem EOFat.frm {H H' : Heap} {E : Value} {S : List Nat} (h : EOFat H E) (hf : Frm S H H') (h0 : 0 ∉ S) : EOFat H' E := by
  obtain ⟨t, f, h⟩ := h
  exact ⟨t, f, hf.get h h0⟩
theorem Store_of {H : Heap} {b o : Nat} {cs : Array Value} {T : TypeId} {v : Value} {K : Heap → Prop} (h : H[b]? = some (.cells cs T (0, 0))) (ho : o < cs.size) (hv : isOne v = true)
    (hk : ∀ H', H'[b]? = some (.cells (cs.setIfInBounds o v) T (0, 0)) → Frm [b] H H' → H'.size = H.size → K H') : Get (store1V (.pointer (some ⟨b, o, none⟩)) v H) K := by
  rw [store1V_of h ho hv, Q6]
  exact hk _ (upd_same (lt_of_some h)) (Frm.upd _ (by simp)) (by simp)
def blk : Value → Option Nat
  | .slice (some a) _ _ => some a.block
  | _ => none
theorem IsBytes.frm' {H H' : Heap} {v : Value} {l : List UInt8} {S : List Nat} (h : IsBytes H v l) (hf : Frm S H H') (hn : l ≠ [] → ∀ b, blk v = some b → b ∉ S) : IsBytes H' v l := by
  rcases h with ⟨b, o, c, rfl, h1, h2⟩ | ⟨a', rfl, rfl⟩
  · refine .inl ⟨b, o, c, rfl, h1, fun j hj => ?_⟩
    have hj2 := h2 j hj
    have hs : b < H.size := by
      rcases Nat.lt_or_ge b H.size with h | h
      · exact h
      · exfalso
        rw [List.getElem?_eq_getElem hj] at hj2
        simp [cellH, Array.getElem?_eq_none h] at hj2
    rw [← hj2]
    simp only [cellH, hf.same b hs (hn (by rintro rfl; simp at hj) b rfl)]
  · exact .inr ⟨a', rfl, rfl⟩
theorem IsBytes.frm {H H' : Heap} {v : Value} {l : List UInt8} {S : List Nat} (h : IsBytes H v l) (hf : Frm S H H') (hn : ∀ b, blk v = some b → b ∉ S) : IsBytes H' v l := h.frm' hf fun _ => hn
theorem bread_end {br : Nat} {v pv : Value} {l : List UInt8} {pos : Int} {T : TypeId} {H : Heap} {E d : Value} (hb : H[br]? = some (.cells #[v, .int .i64 pos, pv] T (0, 0))) (hv : IsBytes H v l) (he : (l.length : Int) ≤ pos) (hE : EOFat H E) :
    CallsH Tryz.prog 231 #[.pointer (some ⟨br, 0, none⟩), d] H fun x H' => x = .tuple #[.int .i64 0, E] ∧ H' = H := by
  apply s220
  have c0 : cellH H ⟨br, 0, none⟩ = some v := by rw [cellH_of hb]; rfl
  have c1 : cellH H ⟨br, 1, none⟩ = some (.int .i64 pos) := by rw [cellH_of hb]; rfl
  have hd : decide (pos ≥ (l.length : Int)) = true := by simpa using he
  simp only [c220, Q0, Q1, Nat.zero_add, c0, c1, Q6, hv.len, Qr, hd, Q7, Qf, hE.load, and_self]
theorem bread_some {br bf o dl dc : Nat} {v pv : Value} {l : List UInt8} {pos : Nat} {T t : TypeId} {cs : Array Value} {H : Heap} (hb : H[br]? = some (.cells #[v, .int .i64 pos, pv] T (0, 0))) (hv : IsBytes H v l) (he : pos < l.length)
    (hl : l.length < 2 ^ 62) (hbf : H[bf]? = some (.cells cs t (0, 0))) (hle : o + dl ≤ cs.size) (hne : br ≠ bf) (hvb : ∀ b, blk v = some b → b ≠ br ∧ b ≠ bf) :
    CallsH Tryz.prog 231 #[.pointer (some ⟨br, 0, none⟩), .slice (some ⟨bf, o, none⟩) dl dc] H fun x H' => x = .tuple #[.int .i64 (min (l.length - pos) dl : Nat), .nilIface] ∧
      H'[br]? = some (.cells #[v, .int .i64 (pos + min (l.length - pos) dl : Nat), .int .i64 (-1)] T (0, 0)) ∧ H'[bf]? = some (.cells (putAt cs o (((l.drop pos).take (min (l.length - pos) dl)).map byteV)) t (0, 0)) ∧
      Frm [br, bf] H H' ∧ H'.size = H.size := by
  apply s220
  have c0 : cellH H ⟨br, 0, none⟩ = some v := by rw [cellH_of hb]; rfl
  have c1 : cellH H ⟨br, 1, none⟩ = some (.int .i64 pos) := by rw [cellH_of hb]; rfl
  have hd : decide ((pos : Int) ≥ (l.length : Int)) = false := by simp; omega
  simp only [c220, Q0, Q1, Nat.zero_add, c0, c1, Q6, hv.len, Qr, hd, Q8, Qe, Qd]
  refine Store_of hb (by simp) rfl fun H1 hb1 f1 z1 => ?_
  simp only [List.setIfInBounds_toArray, List.set_cons_succ, List.set_cons_zero] at hb1
  have d0 : cellH H1 ⟨br, 0, none⟩ = some v := by rw [cellH_of hb1]; rfl
  have d1 : cellH H1 ⟨br, 1, none⟩ = some (.int .i64 pos) := by rw [cellH_of hb1]; rfl
  have hv1 : IsBytes H1 v l := hv.frm f1 (fun b hb => by simpa using (hvb b hb).1)
  have hbf1 : H1[bf]? = some (.cells cs t (0, 0)) := f1.get hbf (by simpa using fun e => hne e.symm)
  obtain ⟨u, hu, hub⟩ := hv1.from' (Nat.le_of_lt he) .i64
  simp only [d0, d1, Q6, hu]
  refine copy_of hbf1 hub hle ?_
  have hlen : (l.drop pos).length = l.length - pos := by simp
  rw [hlen]
  generalize hH2 : upd H1 bf (.cells (putAt cs o (((l.drop pos).take (min (l.length - pos) dl)).map byteV)) t (0, 0)) = H2
  have f2 : Frm [bf] H1 H2 := by rw [← hH2]; exact Frm.upd _ (by simp)
  have z2 : H2.size = H1.size := by rw [← hH2]; simp
  have hb2 := f2.get hb1 (by simpa using hne)
  have hbf2 : H2[bf]? = some (.cells (putAt cs o (((l.drop pos).take (min (l.length - pos) dl)).map byteV)) t (0, 0)) := by rw [← hH2]; exact upd_same (lt_of_some hbf1)
  have e1 : cellH H2 ⟨br, 1, none⟩ = some (.int .i64 pos) := by rw [cellH_of hb2]; rfl
  have hw : IntKind.i64.wrap ((pos : Int) + (min (l.length - pos) dl : Nat)) = ((pos + min (l.length - pos) dl : Nat) : Int) := by rw [wrap_i64 (by omega) (by omega)]; omega
  simp only [e1, Q6, Qk, hw]
  refine Store_of hb2 (by simp) rfl fun H3 hb3 f3 z3 => ?_
  simp only [List.setIfInBounds_toArray, List.set_cons_succ, List.set_cons_zero] at hb3
  refine ⟨trivial, hb3, f3.get hbf2 (by simpa using fun e => hne e.symm), ?_, by omega⟩
  exact ((f1.mono (by simp)).trans (f2.mono (by simp))).trans (f3.mono (by simp))
end Go.Cps
