/-
  A part of the proof: What the bodies of some functions of the program come to, at heap level, each proved of the program itself. What the bodies of some functions of the program come to, at heap level, each proved of the program itself. bytes.Buffer that is only written: Write, WriteString, Bytes.
  Conditions: each contract's own.
-/
import Derived.Test.YtfajmapajpfocaaGreatDoorF4
import Derived.Test.YtfajmapajpfocaaGreatDoorF10
set_option linter.all false
namespace Go.Cps
open Go Go.Proofs
set_option maxRecDepth 100000
def c10 (a0 a1 : Value) (H : Heap) (R : Value → Heap → Prop) : Prop :=
  New (.cells #[(.slice none 0 0), (.int .i64 0), (.int .i8 0)] 55 (0, 0)) H fun x6 H =>
  Get (some (Value.iface 58 x6)) fun x13 =>
  CallsH Tryz.prog 30 #[x13] H fun x14 H =>
  CallsH Tryz.prog 31 #[x14, a0] H fun x17 H =>
  Get (nilV2 .neq .nilIface x17) fun x18 =>
  Br x18 (
  R (.tuple #[(.slice none 0 0), (.bool false)]) H) (
  Get (lenV a1) fun x20 =>
  Loop [(.int .i64 0)] H fun K1 vs2 H =>
  Get (arithV .lss .i64 (nth vs2 0) x20) fun x22 =>
  Br x22 (
  Get (elemAddrV 2 a1 (nth vs2 0)) fun x23 =>
  Get (loadNV 2 x23 H) fun x24 =>
  New (.cells #[(.slice none 0 0), (.slice none 0 0)] 39 (0, 0)) H fun x9 H =>
  Get (storeNV 2 x9 x24 H) fun H =>
  Get (fieldAddrV 0 x9) fun x27 =>
  Get (load1V x27 H) fun x28 =>
  CallsH Tryz.prog 33 #[x28] H fun x29 H =>
  CallsH Tryz.prog 32 #[x14, x29] H fun x30 H =>
  Get (extractV x30 0) fun x31 =>
  Get (extractV x30 1) fun x32 =>
  Get (nilV2 .neq .nilIface x32) fun x34 =>
  Br x34 (
  CallsH Tryz.prog 34 #[x6] H fun x35 H =>
  R (.tuple #[x35, (.bool false)]) H) (
  Get (fieldAddrV 1 x9) fun x39 =>
  Get (load1V x39 H) fun x40 =>
  Get (Instr.fill (fun j => some (j * 1, 1)) ((Array.range (0 * 1)).map ((#[(.int .u8 0)] : Array Value)[· % 1]!)) []) fun cs => NewSl cs 5 0 H fun x38 H =>
  (load1V x39 H = some x40 ∧ True) ∧
  Append 5 1 1 #[(.int .u8 0)] x38 x40 H fun x41 H =>
  Get (nilV (.func (.method "Write") #[x31] #[])) fun _ =>
  Invoke Tryz.prog "Write" x31 #[x41] H fun x45 H =>
  Get (extractV x45 0) fun _ =>
  Get (extractV x45 1) fun x47 =>
  Get (nilV2 .neq .nilIface x47) fun x49 =>
  Br x49 (
  CallsH Tryz.prog 34 #[x6] H fun x50 H =>
  R (.tuple #[x50, (.bool false)]) H) (
  Get (arithV .add .i64 (nth vs2 0) (.int .i64 1)) fun x51 =>
  K1 [x51] H))) (
  CallsH Tryz.prog 35 #[x14] H fun x53 H =>
  CallsH Tryz.prog 34 #[x6] H fun x54 H =>
  Get (nilV2 .eql .nilIface x53) fun x56 =>
  R (.tuple #[x54, x56]) H))
def p10 : Plan := .seq (.leaf []) (.seq (.leaf []) (.seq (.leaf []) (.seq (.seq (.leaf []) (.cond (.seq (.leaf []) (.leaf [])) (.leaf []))) (.seq (.seq (.leaf []) (.block (.loop [21] (.seq (.leaf []) (.seq (.cond (.leaf []) (.leaf [])) (.seq (.block (.seq (.leaf []) (.seq (.leaf []) (.seq (.seq (.leaf []) (.cond (.seq (.leaf []) (.leaf [])) (.leaf []))) (.seq (.leaf [0, 2, 3, 1, 4, 5, 6, 7, 8, 9, 10, 11, 12]) (.seq (.leaf []) (.cond (.seq (.leaf []) (.leaf [])) (.leaf [])))))))) (.leaf []))))))) (.seq (.leaf []) (.seq (.leaf [0, 1, 2, 3, 4]) (.leaf [])))))))
theorem s10 {a0 a1 : Value} {H : Heap} {R : Value → Heap → Prop} (h : c10 a0 a1 H R) : CallsH Tryz.prog 10 #[a0, a1] H R :=
  callsH_of_eq p10 (fn := Tryz.f10) (c := Tryz.f10.body.getD .skip) (args := [a0, a1]) Tryz.func10 (by kernel_rfl) mixed (by kernel_rfl) (by kernel_rfl) (by kernel_rfl) h
def c30 (a0 : Value) (H : Heap) (R : Value → Heap → Prop) : Prop :=
  Get ((fillV #[(0, 1), (1, 1), (2, 1)] #[.nilIface, (.string ⟨#[]⟩), (.pointer none)] [(0, a0), (1, (.string ⟨#[]⟩))]).map .agg) fun x4 =>
  New (.cells (Value.cells x4) 105 (0, 0)) H fun x5 H =>
  R x5 H
def p30 : Plan := .seq (.leaf []) (.seq (.leaf []) (.leaf []))
theorem s30 {a0 : Value} {H : Heap} {R : Value → Heap → Prop} (h : c30 a0 H R) : CallsH Tryz.prog 30 #[a0] H R :=
  callsH_of_eq p30 (fn := Tryz.f30) (c := Tryz.f30.body.getD .skip) (args := [a0]) Tryz.func30 (by kernel_rfl) mixed (by kernel_rfl) (by kernel_rfl) (by kernel_rfl) h
def c31 (a0 a1 : Value) (H : Heap) (R : Value → Heap → Prop) : Prop :=
  Fld 2 a0 H fun x11 =>
  Get (nilV2 .neq (.pointer none) x11) fun x12 =>
  Br x12 (
  CallsH Tryz.prog 60 #[(.string ⟨#[109, 105, 109, 101, 58, 32, 83, 101, 116, 66, 111, 117, 110, 100, 97, 114, 121, 32, 99, 97, 108, 108, 101, 100, 32, 97, 102, 116, 101, 114, 32, 119, 114, 105, 116, 101]⟩)] H fun x13 H =>
  R x13 H) (
  Join (fun K1 =>
  Get (lenStrV a1) fun x15 =>
  Get (arithV .lss .i64 x15 (.int .i64 1)) fun x16 =>
  Br x16 (
  Get (pickV (.bool true) (.bool true) undef) fun x21 =>
  K1 [x21] H) (
  Get (lenStrV a1) fun x19 =>
  Get (arithV .gtr .i64 x19 (.int .i64 70)) fun x20 =>
  Get (pickV (.bool false) (.bool true) x20) fun x21_1 =>
  K1 [x21_1] H)) fun vs2 H =>
  Br (nth vs2 0) (
  CallsH Tryz.prog 60 #[(.string ⟨#[109, 105, 109, 101, 58, 32, 105, 110, 118, 97, 108, 105, 100, 32, 98, 111, 117, 110, 100, 97, 114, 121, 32, 108, 101, 110, 103, 116, 104]⟩)] H fun x22 H =>
  R x22 H) (
  Get (lenStrV a1) fun x24 =>
  Get (arithV .sub .i64 x24 (.int .i64 1)) fun x25 =>
  ExecV Tryz.prog (Instr.range 9 a1) H fun x27 H =>
  Loop [] H fun K3 _ H =>
  ExecV Tryz.prog (Instr.next x27 true 0) H fun x28 H =>
  Get (extractV x28 0) fun x29 =>
  Br x29 (
  Get (extractV x28 1) fun x30 =>
  Get (extractV x28 2) fun x31 =>
  Join (fun K5 =>
  Get (arithV .leq .i32 (.int .i32 65) x31) fun x33 =>
  Br x33 (
  Get (arithV .leq .i32 x31 (.int .i32 90)) fun x36 =>
  Get (pickV (.bool true) x36 (.bool false)) fun x37 =>
  Br x37 (
  Get (pickV (.bool true) (.bool true) undef) fun x45 =>
  Br x45 (
  Get (pickV (.bool true) (.bool true) undef) fun x53 =>
  K5 [x53] H) (
  Get (arithV .leq .i32 (.int .i32 48) x31) fun x48 =>
  Br x48 (
  Get (arithV .leq .i32 x31 (.int .i32 57)) fun x51 =>
  Get (pickV (.bool true) x51 (.bool false)) fun x52 =>
  Get (pickV (.bool false) (.bool true) x52) fun x53_1 =>
  K5 [x53_1] H) (
  Get (pickV (.bool false) undef (.bool false)) fun x52_1 =>
  Get (pickV (.bool false) (.bool true) x52_1) fun x53_2 =>
  K5 [x53_2] H))) (
  Get (arithV .leq .i32 (.int .i32 97) x31) fun x40 =>
  Br x40 (
  Get (arithV .leq .i32 x31 (.int .i32 122)) fun x43 =>
  Get (pickV (.bool true) x43 (.bool false)) fun x44 =>
  Get (pickV (.bool false) (.bool true) x44) fun x45_1 =>
  Br x45_1 (
  Get (pickV (.bool true) (.bool true) undef) fun x53_3 =>
  K5 [x53_3] H) (
  Get (arithV .leq .i32 (.int .i32 48) x31) fun x48_1 =>
  Br x48_1 (
  Get (arithV .leq .i32 x31 (.int .i32 57)) fun x51_1 =>
  Get (pickV (.bool true) x51_1 (.bool false)) fun x52_2 =>
  Get (pickV (.bool false) (.bool true) x52_2) fun x53_4 =>
  K5 [x53_4] H) (
  Get (pickV (.bool false) undef (.bool false)) fun x52_3 =>
  Get (pickV (.bool false) (.bool true) x52_3) fun x53_5 =>
  K5 [x53_5] H))) (
  Get (pickV (.bool false) undef (.bool false)) fun x44_1 =>
  Get (pickV (.bool false) (.bool true) x44_1) fun x45_2 =>
  Br x45_2 (
  Get (pickV (.bool true) (.bool true) undef) fun x53_6 =>
  K5 [x53_6] H) (
  Get (arithV .leq .i32 (.int .i32 48) x31) fun x48_2 =>
  Br x48_2 (
  Get (arithV .leq .i32 x31 (.int .i32 57)) fun x51_2 =>
  Get (pickV (.bool true) x51_2 (.bool false)) fun x52_4 =>
  Get (pickV (.bool false) (.bool true) x52_4) fun x53_7 =>
  K5 [x53_7] H) (
  Get (pickV (.bool false) undef (.bool false)) fun x52_5 =>
  Get (pickV (.bool false) (.bool true) x52_5) fun x53_8 =>
  K5 [x53_8] H))))) (
  Get (pickV (.bool false) undef (.bool false)) fun x37_1 =>
  Br x37_1 (
  Get (pickV (.bool true) (.bool true) undef) fun x45_3 =>
  Br x45_3 (
  Get (pickV (.bool true) (.bool true) undef) fun x53_9 =>
  K5 [x53_9] H) (
  Get (arithV .leq .i32 (.int .i32 48) x31) fun x48_3 =>
  Br x48_3 (
  Get (arithV .leq .i32 x31 (.int .i32 57)) fun x51_3 =>
  Get (pickV (.bool true) x51_3 (.bool false)) fun x52_6 =>
  Get (pickV (.bool false) (.bool true) x52_6) fun x53_10 =>
  K5 [x53_10] H) (
  Get (pickV (.bool false) undef (.bool false)) fun x52_7 =>
  Get (pickV (.bool false) (.bool true) x52_7) fun x53_11 =>
  K5 [x53_11] H))) (
  Get (arithV .leq .i32 (.int .i32 97) x31) fun x40_1 =>
  Br x40_1 (
  Get (arithV .leq .i32 x31 (.int .i32 122)) fun x43_1 =>
  Get (pickV (.bool true) x43_1 (.bool false)) fun x44_2 =>
  Get (pickV (.bool false) (.bool true) x44_2) fun x45_4 =>
  Br x45_4 (
  Get (pickV (.bool true) (.bool true) undef) fun x53_12 =>
  K5 [x53_12] H) (
  Get (arithV .leq .i32 (.int .i32 48) x31) fun x48_4 =>
  Br x48_4 (
  Get (arithV .leq .i32 x31 (.int .i32 57)) fun x51_4 =>
  Get (pickV (.bool true) x51_4 (.bool false)) fun x52_8 =>
  Get (pickV (.bool false) (.bool true) x52_8) fun x53_13 =>
  K5 [x53_13] H) (
  Get (pickV (.bool false) undef (.bool false)) fun x52_9 =>
  Get (pickV (.bool false) (.bool true) x52_9) fun x53_14 =>
  K5 [x53_14] H))) (
  Get (pickV (.bool false) undef (.bool false)) fun x44_3 =>
  Get (pickV (.bool false) (.bool true) x44_3) fun x45_5 =>
  Br x45_5 (
  Get (pickV (.bool true) (.bool true) undef) fun x53_15 =>
  K5 [x53_15] H) (
  Get (arithV .leq .i32 (.int .i32 48) x31) fun x48_5 =>
  Br x48_5 (
  Get (arithV .leq .i32 x31 (.int .i32 57)) fun x51_5 =>
  Get (pickV (.bool true) x51_5 (.bool false)) fun x52_10 =>
  Get (pickV (.bool false) (.bool true) x52_10) fun x53_16 =>
  K5 [x53_16] H) (
  Get (pickV (.bool false) undef (.bool false)) fun x52_11 =>
  Get (pickV (.bool false) (.bool true) x52_11) fun x53_17 =>
  K5 [x53_17] H)))))) fun vs6 H =>
  Br (nth vs6 0) (
  K3 [] H) (
  Join (fun K7 =>
  Join (fun K8 =>
  Get (arithV .eql .i32 x31 (.int .i32 39)) fun x56 =>
  Br x56 (
  K8 [x56] H) (
  Get (arithV .eql .i32 x31 (.int .i32 40)) fun x57 =>
  Br x57 (
  K8 [x57] H) (
  Get (arithV .eql .i32 x31 (.int .i32 41)) fun x58 =>
  Br x58 (
  K8 [x58] H) (
  Get (arithV .eql .i32 x31 (.int .i32 43)) fun x59 =>
  Br x59 (
  K8 [x59] H) (
  Get (arithV .eql .i32 x31 (.int .i32 95)) fun x60 =>
  Br x60 (
  K8 [x60] H) (
  Get (arithV .eql .i32 x31 (.int .i32 44)) fun x61 =>
  Br x61 (
  K8 [x61] H) (
  Get (arithV .eql .i32 x31 (.int .i32 45)) fun x62 =>
  Br x62 (
  K8 [x62] H) (
  Get (arithV .eql .i32 x31 (.int .i32 46)) fun x63 =>
  Br x63 (
  K8 [x63] H) (
  Get (arithV .eql .i32 x31 (.int .i32 47)) fun x64 =>
  Br x64 (
  K8 [x64] H) (
  Get (arithV .eql .i32 x31 (.int .i32 58)) fun x65 =>
  Br x65 (
  K8 [x65] H) (
  Get (arithV .eql .i32 x31 (.int .i32 61)) fun x66 =>
  Br x66 (
  K8 [x66] H) (
  Get (arithV .eql .i32 x31 (.int .i32 63)) fun x67 =>
  K8 [x67] H)))))))))))) fun vs9 H =>
  Br (nth vs9 0) (
  K3 [] H) (
  Get (arithV .eql .i32 x31 (.int .i32 32)) fun x69 =>
  Br x69 (
  Get (arithV .neq .i64 x30 x25) fun x72 =>
  Br x72 (
  K3 [] H) (
  K7 [] H)) (
  K7 [] H))) fun _ H =>
  CallsH Tryz.prog 60 #[(.string ⟨#[109, 105, 109, 101, 58, 32, 105, 110, 118, 97, 108, 105, 100, 32, 98, 111, 117, 110, 100, 97, 114, 121, 32, 99, 104, 97, 114, 97, 99, 116, 101, 114]⟩)] H fun x73 H =>
  R x73 H)) (
  Get (nilV a0) fun x76 =>
  Get (fieldAddrV 1 x76) fun x77 =>
  Get (store1V x77 a1 H) fun H =>
  R .nilIface H)))
def p31 : Plan := .seq (.leaf []) (.seq (.seq (.leaf []) (.cond (.seq (.leaf []) (.leaf [])) (.leaf []))) (.seq (.join [21] (.leaf []) (.cond (.seq (.leaf []) (.leaf [])) (.leaf []))) (.seq (.leaf []) (.seq (.seq (.leaf []) (.block (.loop [] (.seq (.leaf []) (.seq (.cond (.leaf []) (.leaf [])) (.block (.seq (.leaf []) (.seq (.join [53] (.leaf []) (.cond (.leaf []) (.leaf []))) (.join [] (.seq (.leaf []) (.block (.join [55] (.seq (.leaf []) (.cond (.leaf []) (.seq (.leaf []) (.cond (.leaf []) (.seq (.leaf []) (.cond (.leaf []) (.seq (.leaf []) (.cond (.leaf []) (.seq (.leaf []) (.cond (.leaf []) (.seq (.leaf []) (.cond (.leaf []) (.seq (.leaf []) (.cond (.leaf []) (.seq (.leaf []) (.cond (.leaf []) (.seq (.leaf []) (.cond (.leaf []) (.seq (.leaf []) (.cond (.leaf []) (.seq (.leaf []) (.cond (.leaf []) (.leaf []))))))))))))))))))))))) (.cond (.leaf []) (.seq (.leaf []) (.cond (.seq (.leaf []) (.cond (.leaf []) (.leaf []))) (.leaf []))))))) (.seq (.leaf []) (.leaf []))))))))))) (.seq (.leaf []) (.seq (.leaf []) (.leaf [])))))))
theorem s31 {a0 a1 : Value} {H : Heap} {R : Value → Heap → Prop} (h : c31 a0 a1 H R) : CallsH Tryz.prog 31 #[a0, a1] H R :=
  callsH_of_eq p31 (fn := Tryz.f31) (c := Tryz.f31.body.getD .skip) (args := [a0, a1]) Tryz.func31 (by kernel_rfl) mixed (by kernel_rfl) (by kernel_rfl) (by kernel_rfl) h
def c35 (a0 : Value) (H : Heap) (R : Value → Heap → Prop) : Prop :=
  Join (fun K1 =>
  Fld 2 a0 H fun x9 =>
  Get (nilV2 .neq (.pointer none) x9) fun x10 =>
  Br x10 (
  Fld 2 a0 H fun x14 =>
  CallsH Tryz.prog 61 #[x14] H fun x15 H =>
  Get (nilV2 .neq .nilIface x15) fun x17 =>
  Br x17 (
  R x15 H) (
  Get (nilV a0) fun x20 =>
  Get (fieldAddrV 2 x20) fun x21 =>
  Get (store1V x21 (.pointer none) H) fun H =>
  K1 [] H)) (
  K1 [] H)) fun _ H =>
  Get (nilV a0) fun x24 =>
  Get (fieldAddrV 0 x24) fun x25 =>
  Get (load1V x25 H) fun x26 =>
  Fld 1 a0 H fun x30 =>
  Get (strV .add (.string ⟨#[13, 10, 45, 45]⟩) x30) fun x31 =>
  Get (strV .add x31 (.string ⟨#[45, 45, 13, 10]⟩)) fun x32 =>
  ToBytes 5 x32 H fun x33 H =>
  (load1V x25 H = some x26 ∧ True) ∧
  Get (nilV x26) fun _ =>
  Invoke Tryz.prog "Write" x26 #[x33] H fun x36 H =>
  Get (extractV x36 0) fun _ =>
  Get (extractV x36 1) fun x38 =>
  R x38 H
def p35 : Plan := .seq (.leaf []) (.join [] (.seq (.leaf []) (.cond (.seq (.seq (.leaf []) (.seq (.leaf []) (.cond (.seq (.leaf []) (.leaf [])) (.leaf [])))) (.leaf [])) (.leaf []))) (.seq (.leaf [0, 1, 2, 3, 4, 5, 6, 7, 8, 9, 10, 11, 12, 13, 14, 15, 16, 17, 18]) (.seq (.leaf []) (.leaf []))))
theorem s35 {a0 : Value} {H : Heap} {R : Value → Heap → Prop} (h : c35 a0 H R) : CallsH Tryz.prog 35 #[a0] H R :=
  callsH_of_eq p35 (fn := Tryz.f35) (c := Tryz.f35.body.getD .skip) (args := [a0]) Tryz.func35 (by kernel_rfl) mixed (by kernel_rfl) (by kernel_rfl) (by kernel_rfl) h
def c209 (a0 a1 : Value) (H : Heap) (R : Value → Heap → Prop) : Prop :=
  Get (nilV a0) fun x9 =>
  Get (fieldAddrV 2 x9) fun x10 =>
  Get (store1V x10 (.int .i8 0) H) fun H =>
  Get (lenV a1) fun x14 =>
  CallsH Tryz.prog 83 #[a0, x14] H fun x15 H =>
  Get (extractV x15 0) fun x16 =>
  Get (extractV x15 1) fun x17 =>
  Join (fun K1 =>
  Get (unV .not x17) fun x19 =>
  Br x19 (
  Get (lenV a1) fun x22 =>
  CallsH Tryz.prog 84 #[a0, x22] H fun x23 H =>
  K1 [x23] H) (
  K1 [x16] H)) fun vs2 H =>
  Fld 0 a0 H fun x27 =>
  Get (sliceV 1 x27 (some (nth vs2 0)) none none) fun x29 =>
  Copy 1 x29 a1 H fun x31 H =>
  R (.tuple #[x31, .nilIface]) H
def p209 : Plan := .seq (.leaf []) (.seq (.leaf []) (.seq (.leaf []) (.join [6] (.seq (.leaf []) (.cond (.leaf []) (.leaf []))) (.seq (.leaf []) (.leaf [])))))
theorem s209 {a0 a1 : Value} {H : Heap} {R : Value → Heap → Prop} (h : c209 a0 a1 H R) : CallsH Tryz.prog 209 #[a0, a1] H R :=
  callsH_of_eq p209 (fn := Tryz.f209) (c := Tryz.f209.body.getD .skip) (args := [a0, a1]) Tryz.func209 (by kernel_rfl) mixed (by kernel_rfl) (by kernel_rfl) (by kernel_rfl) h
def c83 (a0 a1 : Value) (H : Heap) (R : Value → Heap → Prop) : Prop :=
  Fld 0 a0 H fun x10 =>
  Get (lenV x10) fun x11 =>
  Fld 0 a0 H fun x16 =>
  Get (capV x16) fun x17 =>
  Get (arithV .sub .i64 x17 x11) fun x19 =>
  Get (arithV .leq .i64 a1 x19) fun x20 =>
  Br x20 (
  Fld 0 a0 H fun x25 =>
  Get (arithV .add .i64 x11 a1) fun x28 =>
  Get (sliceV 1 x25 none (some x28) none) fun x29 =>
  Get (nilV a0) fun x30 =>
  Get (fieldAddrV 0 x30) fun x31 =>
  Get (store1V x31 x29 H) fun H =>
  R (.tuple #[x11, (.bool true)]) H) (
  R (.tuple #[(.int .i64 0), (.bool false)]) H)
def p83 : Plan := .seq (.leaf []) (.seq (.seq (.leaf []) (.seq (.leaf []) (.cond (.seq (.leaf []) (.seq (.leaf []) (.leaf []))) (.leaf [])))) (.seq (.leaf []) (.leaf [])))
theorem s83 {a0 a1 : Value} {H : Heap} {R : Value → Heap → Prop} (h : c83 a0 a1 H R) : CallsH Tryz.prog 83 #[a0, a1] H R :=
  callsH_of_eq p83 (fn := Tryz.f83) (c := Tryz.f83.body.getD .skip) (args := [a0, a1]) Tryz.func83 (by kernel_rfl) mixed (by kernel_rfl) (by kernel_rfl) (by kernel_rfl) h
def c84 (a0 a1 : Value) (H : Heap) (R : Value → Heap → Prop) : Prop :=
  CallsH Tryz.prog 101 #[a0] H fun x10 H =>
  Join (fun K1 =>
  Join (fun K2 =>
  Get (arithV .eql .i64 x10 (.int .i64 0)) fun x12 =>
  Br x12 (
  Fld 1 a0 H fun x17 =>
  Get (arithV .neq .i64 x17 (.int .i64 0)) fun x18 =>
  Get (pickV (.bool true) x18 (.bool false)) fun x19 =>
  K2 [x19] H) (
  Get (pickV (.bool false) undef (.bool false)) fun x19_1 =>
  K2 [x19_1] H)) fun vs3 H =>
  Br (nth vs3 0) (
  CallsH Tryz.prog 102 #[a0] H fun _ H =>
  K1 [] H) (
  K1 [] H)) fun _ H =>
  CallsH Tryz.prog 83 #[a0, a1] H fun x25 H =>
  Get (extractV x25 0) fun x26 =>
  Get (extractV x25 1) fun x27 =>
  Br x27 (
  R x26 H) (
  Join (fun K5 =>
  Fld 0 a0 H fun x33 =>
  Get (nilV2 .eql (.slice none 0 0) x33) fun x34 =>
  Br x34 (
  Get (arithV .leq .i64 a1 (.int .i64 64)) fun x37 =>
  Get (pickV (.bool true) x37 (.bool false)) fun x38 =>
  K5 [x38] H) (
  Get (pickV (.bool false) undef (.bool false)) fun x38_1 =>
  K5 [x38_1] H)) fun vs6 H =>
  Br (nth vs6 0) (
  MakeSlice 5 1 1 #[(.int .u8 0)] a1 (.int .i64 64) H fun x41 H =>
  Get (nilV a0) fun x42 =>
  Get (fieldAddrV 0 x42) fun x43 =>
  Get (store1V x43 x41 H) fun H =>
  R (.int .i64 0) H) (
  Fld 0 a0 H fun x47 =>
  Get (capV x47) fun x48 =>
  Join (fun K7 =>
  Get (arithV .quo .i64 x48 (.int .i64 2)) fun x51 =>
  Get (arithV .sub .i64 x51 x10) fun x53 =>
  Get (arithV .leq .i64 a1 x53) fun x54 =>
  Br x54 (
  Fld 0 a0 H fun x58 =>
  Fld 0 a0 H fun x62 =>
  Fld 1 a0 H fun x66 =>
  Get (sliceV 1 x62 (some x66) none none) fun x67 =>
  Copy 1 x58 x67 H fun _ H =>
  K7 [] H) (
  Get (arithV .sub .i64 (.int .i64 9223372036854775807) x48) fun x71 =>
  Get (arithV .sub .i64 x71 a1) fun x73 =>
  Get (arithV .gtr .i64 x48 x73) fun x74 =>
  Br x74 (
  Get (load1V (.pointer (some ⟨1, 0, none⟩)) H) fun _ =>
  False) (
  Fld 0 a0 H fun x80 =>
  Fld 1 a0 H fun x84 =>
  Get (sliceV 1 x80 (some x84) none none) fun x85 =>
  Fld 1 a0 H fun x89 =>
  Get (arithV .add .i64 x89 a1) fun x91 =>
  CallsH Tryz.prog 103 #[x85, x91] H fun x92 H =>
  Get (nilV a0) fun x93 =>
  Get (fieldAddrV 0 x93) fun x94 =>
  Get (store1V x94 x92 H) fun H =>
  K7 [] H))) fun _ H =>
  Get (nilV a0) fun x96 =>
  Get (fieldAddrV 1 x96) fun x97 =>
  Get (store1V x97 (.int .i64 0) H) fun H =>
  Fld 0 a0 H fun x102 =>
  Get (arithV .add .i64 x10 a1) fun x105 =>
  Get (sliceV 1 x102 none (some x105) none) fun x106 =>
  Get (nilV a0) fun x107 =>
  Get (fieldAddrV 0 x107) fun x108 =>
  Get (store1V x108 x106 H) fun H =>
  R x10 H))
def p84 : Plan := .seq (.leaf []) (.seq (.leaf []) (.join [] (.join [19] (.leaf []) (.cond (.leaf []) (.leaf []))) (.seq (.seq (.leaf []) (.seq (.leaf []) (.cond (.seq (.leaf []) (.leaf [])) (.leaf [])))) (.seq (.join [38] (.leaf []) (.cond (.seq (.leaf []) (.seq (.leaf []) (.leaf []))) (.leaf []))) (.seq (.leaf []) (.join [] (.seq (.leaf []) (.cond (.leaf [0, 1, 2, 3, 4, 5, 6, 7, 8, 9, 10, 11, 12, 13]) (.seq (.leaf []) (.cond (.leaf []) (.leaf [0, 1, 2, 3, 4, 5, 6, 7, 8, 9, 10, 11, 12, 13, 14, 15, 16, 17, 18, 19]))))) (.seq (.leaf []) (.seq (.leaf []) (.seq (.leaf []) (.leaf []))))))))))
theorem s84 {a0 a1 : Value} {H : Heap} {R : Value → Heap → Prop} (h : c84 a0 a1 H R) : CallsH Tryz.prog 84 #[a0, a1] H R :=
  callsH_of_eq p84 (fn := Tryz.f84) (c := Tryz.f84.body.getD .skip) (args := [a0, a1]) Tryz.func84 (by kernel_rfl) mixed (by kernel_rfl) (by kernel_rfl) (by kernel_rfl) h
def c34 (a0 : Value) (H : Heap) (R : Value → Heap → Prop) : Prop :=
  Fld 0 a0 H fun x6 =>
  Fld 1 a0 H fun x10 =>
  Get (sliceV 1 x6 (some x10) none none) fun x11 =>
  R x11 H
def p34 : Plan := .seq (.leaf []) (.seq (.leaf [0, 1, 2, 3, 4, 5, 6, 7, 8, 9]) (.leaf []))
theorem s34 {a0 : Value} {H : Heap} {R : Value → Heap → Prop} (h : c34 a0 H R) : CallsH Tryz.prog 34 #[a0] H R :=
  callsH_of_eq p34 (fn := Tryz.f34) (c := Tryz.f34.body.getD .skip) (args := [a0]) Tryz.func34 (by kernel_rfl) mixed (by kernel_rfl) (by kernel_rfl) (by kernel_rfl) h
end Go.Cps
namespace Go.Cps
open Go Go.Proofs
set_option maxRecDepth 100000
def c101 (a0 : Value) (H : Heap) (R : Value → Heap → Prop) : Prop :=
  Fld 0 a0 H fun x6 =>
  Get (lenV x6) fun x7 =>
  Fld 1 a0 H fun x11 =>
  Get (arithV .sub .i64 x7 x11) fun x12 =>
  R x12 H
def p101 : Plan := .seq (.leaf []) (.seq (.leaf [0, 1, 2, 3, 4, 5, 6, 7, 8, 9, 10]) (.leaf []))
theorem s101 {a0 : Value} {H : Heap} {R : Value → Heap → Prop} (h : c101 a0 H R) : CallsH Tryz.prog 101 #[a0] H R :=
  callsH_of_eq p101 (fn := Tryz.f101) (c := Tryz.f101.body.getD .skip) (args := [a0]) Tryz.func101 (by kernel_rfl) mixed (by kernel_rfl) (by kernel_rfl) (by kernel_rfl) h
def c102 (a0 : Value) (H : Heap) (R : Value → Heap → Prop) : Prop :=
  Fld 0 a0 H fun x6 =>
  Get (sliceV 1 x6 none (some (.int .i64 0)) none) fun x7 =>
  Get (nilV a0) fun x8 =>
  Get (fieldAddrV 0 x8) fun x9 =>
  Get (store1V x9 x7 H) fun H =>
  Get (nilV a0) fun x11 =>
  Get (fieldAddrV 1 x11) fun x12 =>
  Get (store1V x12 (.int .i64 0) H) fun H =>
  Get (nilV a0) fun x14 =>
  Get (fieldAddrV 2 x14) fun x15 =>
  Get (store1V x15 (.int .i8 0) H) fun H =>
  R (.tuple #[]) H
def p102 : Plan := .seq (.leaf []) (.seq (.leaf []) (.leaf []))
theorem s102 {a0 : Value} {H : Heap} {R : Value → Heap → Prop} (h : c102 a0 H R) : CallsH Tryz.prog 102 #[a0] H R :=
  callsH_of_eq p102 (fn := Tryz.f102) (c := Tryz.f102.body.getD .skip) (args := [a0]) Tryz.func102 (by kernel_rfl) mixed (by kernel_rfl) (by kernel_rfl) (by kernel_rfl) h
def c62 (a0 a1 : Value) (H : Heap) (R : Value → Heap → Prop) : Prop :=
  Get (nilV a0) fun x9 =>
  Get (fieldAddrV 2 x9) fun x10 =>
  Get (store1V x10 (.int .i8 0) H) fun H =>
  Get (lenStrV a1) fun x14 =>
  CallsH Tryz.prog 83 #[a0, x14] H fun x15 H =>
  Get (extractV x15 0) fun x16 =>
  Get (extractV x15 1) fun x17 =>
  Join (fun K1 =>
  Get (unV .not x17) fun x19 =>
  Br x19 (
  Get (lenStrV a1) fun x22 =>
  CallsH Tryz.prog 84 #[a0, x22] H fun x23 H =>
  K1 [x23] H) (
  K1 [x16] H)) fun vs2 H =>
  Fld 0 a0 H fun x27 =>
  Get (sliceV 1 x27 (some (nth vs2 0)) none none) fun x29 =>
  Copy 1 x29 a1 H fun x31 H =>
  R (.tuple #[x31, .nilIface]) H
def p62 : Plan := .seq (.leaf []) (.seq (.leaf []) (.seq (.leaf []) (.join [6] (.seq (.leaf []) (.cond (.leaf []) (.leaf []))) (.seq (.leaf []) (.leaf [])))))
theorem s62 {a0 a1 : Value} {H : Heap} {R : Value → Heap → Prop} (h : c62 a0 a1 H R) : CallsH Tryz.prog 62 #[a0, a1] H R :=
  callsH_of_eq p62 (fn := Tryz.f62) (c := Tryz.f62.body.getD .skip) (args := [a0, a1]) Tryz.func62 (by kernel_rfl) mixed (by kernel_rfl) (by kernel_rfl) (by kernel_rfl) h
def c61 (a0 : Value) (H : Heap) (R : Value → Heap → Prop) : Prop :=
  Get (nilV a0) fun x4 =>
  Get (fieldAddrV 1 x4) fun x5 =>
  Get (store1V x5 (.bool true) H) fun H =>
  Fld 2 a0 H fun x9 =>
  R x9 H
def p61 : Plan := .seq (.leaf []) (.seq (.leaf []) (.seq (.leaf []) (.leaf [])))
theorem s61 {a0 : Value} {H : Heap} {R : Value → Heap → Prop} (h : c61 a0 H R) : CallsH Tryz.prog 61 #[a0] H R :=
  callsH_of_eq p61 (fn := Tryz.f61) (c := Tryz.f61.body.getD .skip) (args := [a0]) Tryz.func61 (by kernel_rfl) mixed (by kernel_rfl) (by kernel_rfl) (by kernel_rfl) h
end Go.Cps
namespace Go.Cps
open Go Go.Proofs
def Own (H : Heap) (b : Nat) (k : Option Nat) (sl : Value) (l : List UInt8) : Prop := match k with
  | none => sl = .slice none 0 0 ∧ l = []
  | some g => ∃ cells : Array Value, sl = .slice (some ⟨g, 0, none⟩) l.length cells.size ∧ H[g]? = some (.cells cells 5 (0, 0)) ∧ cells.toList.take l.length = l.map byteV ∧ l.length ≤ cells.size ∧ cells.size ≤ maxLen ∧ g ≠ b
def BufAt (b : Nat) (k : Option Nat) (l : List UInt8) (H : Heap) : Prop := ∃ sl lr, H[b]? = some (.cells #[sl, .int .i64 0, .int .i8 lr] 55 (0, 0)) ∧ Own H b k sl l
theorem Own.bytes {H : Heap} {b : Nat} {k : Option Nat} {sl : Value} {l : List UInt8} (h : Own H b k sl l) : IsBytes H sl l := by
  cases k with
  | none => exact .inr ⟨none, h⟩
  | some g =>
    obtain ⟨cells, rfl, hg, ht, hle, _, _⟩ := h
    refine .inl ⟨g, 0, _, rfl, hle, fun j hj => ?_⟩
    rw [cellH_of hg, Nat.zero_add]
    have : (cells.toList.take l.length)[j]? = (l.map byteV)[j]? := by rw [ht]
    rw [List.getElem?_take, if_pos hj, List.getElem?_map] at this
    simpa using this
theorem Own.frm {H H' : Heap} {b : Nat} {k : Option Nat} {sl : Value} {l : List UInt8} {X : List Nat} (h : Own H b k sl l) (f : Frm X H H') (hk : ∀ g, k = some g → g ∉ X) : Own H' b k sl l := by
  cases k with
  | none => exact h
  | some g =>
    obtain ⟨cells, h1, hg, h2⟩ := h
    exact ⟨cells, h1, f.get hg (hk g rfl), h2⟩
theorem BufAt.frm {H H' : Heap} {b : Nat} {k : Option Nat} {l : List UInt8} {X : List Nat} (h : BufAt b k l H) (f : Frm X H H') (hb : b ∉ X) (hk : ∀ g, k = some g → g ∉ X) : BufAt b k l H' := by
  obtain ⟨sl, lr, h1, h2⟩ := h
  exact ⟨sl, lr, f.get h1 hb, h2.frm f hk⟩
theorem Own.shape {H : Heap} {b : Nat} {k : Option Nat} {sl : Value} {l : List UInt8} (h : Own H b k sl l) : ∃ base c, sl = .slice base l.length c ∧ l.length ≤ c ∧ c ≤ maxLen := by
  cases k with
  | none => obtain ⟨rfl, rfl⟩ := h; exact ⟨none, 0, rfl, Nat.le_refl _, by simp⟩
  | some g => obtain ⟨cells, rfl, hg, ht, hle, hm, _⟩ := h; exact ⟨_, _, rfl, hle, hm⟩
theorem tryGrow_ok {b m c n : Nat} {base : Option Addr} {o lr : Value} {H : Heap} (h : H[b]? = some (.cells #[.slice base m c, o, lr] 55 (0, 0))) (hm : m ≤ c) (hc : c ≤ maxLen) (hn : n < 2 ^ 40) (hmn : m < 2 ^ 40) :
    CallsH Tryz.prog 83 #[.pointer (some ⟨b, 0, none⟩), .int .i64 n] H fun x H' => (n ≤ c - m ∧ x = .tuple #[.int .i64 m, .bool true] ∧ H'[b]? = some (.cells #[.slice base (m + n) c, o, lr] 55 (0, 0)) ∧ Frm [b] H H' ∧ H'.size = H.size) ∨
      (c - m < n ∧ x = .tuple #[.int .i64 0, .bool false] ∧ H' = H) := by
  unfold maxLen at hc
  apply s83
  have e1 : IntKind.i64.wrap ((c : Int) - (m : Int)) = ((c - m : Nat) : Int) := by rw [wrap_i64 (by omega) (by omega)]; omega
  have e2 : IntKind.i64.wrap ((m : Int) + (n : Int)) = ((m + n : Nat) : Int) := by rw [wrap_i64 (by omega) (by omega)]; omega
  simp only [c83, Q0, Q1, Q2, Q3, Q4, Q5, Q6, Q7, Q8, Q9, Qa, Qb, Qc, Qd, Qe, Qf, Qg, Qh, Qi, Qj, Qk, Ql, Qm, Qn, Qo, Qp, Qq, Qr, Qs, cellH_of h, e1, e2]
  refine Br_intro (fun hd => ?_) (fun hd => ?_)
  · have hd' : n ≤ c - m := by simp at hd; omega
    rw [sliceV_hi (by omega), Q6]
    refine Store_of h (by simp) rfl fun H1 hb1 f1 z1 => ?_
    simp only [Qt, Qu, Qv] at hb1
    exact .inl ⟨hd', trivial, hb1, f1, z1⟩
  · have hd' : c - m < n := by simp at hd; omega
    exact .inr ⟨hd', trivial, trivial⟩
def Room (H : Heap) (b : Nat) (l : List UInt8) (n : Nat) (k : Option Nat) (sl : Value) : Prop := match k with
  | none => sl = .slice none 0 0 ∧ l = [] ∧ n = 0
  | some g => ∃ cells : Array Value, sl = .slice (some ⟨g, 0, none⟩) (l.length + n) cells.size ∧ H[g]? = some (.cells cells 5 (0, 0)) ∧ cells.toList.take l.length = l.map byteV ∧ l.length + n ≤ cells.size ∧ cells.size ≤ maxLen ∧ g ≠ b
theorem Own.room {H : Heap} {b n : Nat} {k : Option Nat} {base : Option Addr} {m c : Nat} {l : List UInt8} (h : Own H b k (.slice base m c) l) (hn : n ≤ c - m) : m = l.length ∧ Room H b l n k (.slice base (m + n) c) := by
  cases k with
  | none =>
    obtain ⟨h1, rfl⟩ := h
    cases h1
    have : n = 0 := by omega
    subst this
    exact ⟨rfl, rfl, rfl, rfl⟩
  | some g =>
    obtain ⟨cells, h1, hg, ht, hle, hm, hne⟩ := h
    cases h1
    exact ⟨rfl, cells, rfl, hg, ht, by omega, hm, hne⟩
theorem Room.frm {H H' : Heap} {b n : Nat} {k : Option Nat} {sl : Value} {l : List UInt8} {X : List Nat} (h : Room H b l n k sl) (f : Frm X H H') (hk : ∀ g, k = some g → g ∉ X) : Room H' b l n k sl := by
  cases k with
  | none => exact h
  | some g =>
    obtain ⟨cells, h1, hg, h2⟩ := h
    exact ⟨cells, h1, f.get hg (hk g rfl), h2⟩
theorem Own.ne {H : Heap} {b : Nat} {k : Option Nat} {sl : Value} {l : List UInt8} (h : Own H b k sl l) : ∀ g, k = some g → g ≠ b := by
  rintro g rfl
  obtain ⟨_, _, _, _, _, _, h⟩ := h
  exact h
theorem byteV_one (l : List UInt8) : ∀ v ∈ l.map byteV, v.oneCell' = true := by
  intro v hv
  obtain ⟨b, _, rfl⟩ := List.mem_map.1 hv
  rfl
theorem len_ok {b m c : Nat} {base : Option Addr} {lr : Value} {H : Heap} (h : H[b]? = some (.cells #[.slice base m c, .int .i64 0, lr] 55 (0, 0))) (hm : m < 2 ^ 40) :
    CallsH Tryz.prog 101 #[.pointer (some ⟨b, 0, none⟩)] H fun x H' => x = .int .i64 m ∧ H' = H := by
  apply s101
  have e : IntKind.i64.wrap ((m : Int) - 0) = m := by rw [wrap_i64 (by omega) (by omega)]; omega
  simp only [c101, Q0, Q1, Q2, Q3, Q4, Q5, Q6, Q7, Q8, Q9, Qa, Qb, Qc, Qd, Qe, Qf, Qg, Qh, Qi, Qj, Qk, Ql, Qm, Qn, Qo, Qp, Qq, Qr, Qs, cellH_of h, e, and_self]
theorem grow_ok {b n : Nat} {k : Option Nat} {l : List UInt8} {sl lr : Value} {H : Heap} (h : H[b]? = some (.cells #[sl, .int .i64 0, lr] 55 (0, 0))) (ho : Own H b k sl l) (hn : l.length + n < 2 ^ 40) (hbig : ∀ base m c, sl = .slice base m c → c - m < n) :
    CallsH Tryz.prog 84 #[.pointer (some ⟨b, 0, none⟩), .int .i64 n] H fun x H' => x = .int .i64 l.length ∧ ∃ g sl', H'[b]? = some (.cells #[sl', .int .i64 0, lr] 55 (0, 0)) ∧ Room H' b l n (some g) sl' ∧ Frm [b] H H' ∧ H.size ≤ g := by
  obtain ⟨base, c, rfl, hlc, hcm⟩ := ho.shape
  have hbg := hbig _ _ _ rfl
  have hcm' := hcm
  unfold maxLen at hcm'
  have hbs := lt_of_some h
  apply s84
  unfold c84
  refine (len_ok h (by omega)).mono ?_
  rintro x H1 ⟨rfl, rfl⟩
  refine Join_direct ?_
  refine ⟨fun vs H' => vs = [.bool false] ∧ H' = H1, ?_, ?_⟩
  · simp only [Q0, Q1, Q2, Q3, Q4, Q5, Q6, Q7, Q8, Q9, Qa, Qb, Qc, Qd, Qe, Qf, Qg, Qh, Qi, Qj, Qk, Ql, Qm, Qn, Qo, Qp, Qq, Qr, Qs, cellH_of h]
    refine Br_intro (fun h0 => ?_) (fun h0 => ?_) <;> simp
  · rintro _ H1 ⟨rfl, rfl⟩
    simp only [Q0, Q1, Q2, Q3, Q4, Q5, Q6, Q7, Q8, Q9, Qa, Qb, Qc, Qd, Qe, Qf, Qg, Qh, Qi, Qj]
    refine (tryGrow_ok h hlc hcm (by omega) (by omega)).mono ?_
    rintro x H2 (⟨hh, _⟩ | ⟨_, rfl, rfl⟩)
    · omega
    simp only [Q0, Q1, Q2, Q3, Q4, Q5, Q6, Q7, Q8, Q9, Qa, Qb, Qc, Qd, Qe, Qf, Qg, Qh, Qi, Qj]
    refine ⟨fun vs H' => H' = H2 ∧ vs = [.bool (base.isNone && decide ((n : Int) ≤ 64))], ?_, ?_⟩
    · simp only [Q0, Q1, Q2, Q3, Q4, Q5, Q6, Q7, Q8, Q9, Qa, Qb, Qc, Qd, Qe, Qf, Qg, Qh, Qi, Qj, Qk, Ql, Qm, Qn, Qo, Qp, Qq, Qr, Qs, cellH_of h, nilV2_eql_slice]
      refine Br_intro (fun h0 => ?_) (fun h0 => ?_) <;> simp [h0]
    · rintro _ H2 ⟨rfl, rfl⟩
      simp only [Q0, Q1, Q2, Q3, Q4, Q5, Q6, Q7, Q8, Q9, Qa, Qb, Qc, Qd, Qe, Qf, Qg, Qh, Qi, Qj]
      refine Br_intro (fun hd => ?_) (fun hd => ?_)
      · -- a first small row
        simp only [Bool.and_eq_true, decide_eq_true_eq] at hd
        have hl0 : l = [] := by
          cases k with
          | none => exact ho.2
          | some g => obtain ⟨_, h1, _⟩ := ho; cases h1; simp at hd
        subst hl0
        refine ⟨.i64, .i64, n, 64, rfl, rfl, by omega, by omega, by omega, ?_⟩
        have e1 : (#[(.int .u8 0)] : Array Value).size = 1 := rfl
        rw [e1, zeros_eq 64]
        simp only [Q0, Q1, Q2, Q3, Q4, Q5, Q6, Q7, Q8, Q9, Qa, Qb, Qc, Qd, Qe, Qf, Qg, Qh, Qi, Qj]
        rw [show (List.replicate 64 (0 : UInt8)) = zbuf 64 from rfl]
        generalize hH3 : H2.push (.cells ((zbuf 64).map byteV).toArray 5 (0, 0)) = H3
        have f3 : Frm [] H2 H3 := by rw [← hH3]; exact Frm.push _ _ _
        have hg3 : H3[H2.size]? = some (.cells ((zbuf 64).map byteV).toArray 5 (0, 0)) := by rw [← hH3]; exact push_same _ _
        refine Store_of (f3.get h (by simp)) (by simp) rfl fun H4 hb4 f4 z4 => ?_
        simp only [Qt, Qu, Qv] at hb4
        refine ⟨rfl, H2.size, _, hb4, ⟨_, ?_, f4.get hg3 (by simp; omega), rfl, by simp [zbuf_length]; omega, by simp [zbuf_length, maxLen], by omega⟩, (f3.mono (by simp)).trans f4, Nat.le_refl _⟩
        simp [zbuf_length]
      · simp only [Q0, Q1, Q2, Q3, Q4, Q5, Q6, Q7, Q8, Q9, Qa, Qb, Qc, Qd, Qe, Qf, Qg, Qh, Qi, Qj, cellH_of h]
        refine ⟨fun _ H' => ∃ g cells, H'[b]? = some (.cells #[.slice (some ⟨g, 0, none⟩) l.length cells.size, .int .i64 0, lr] 55 (0, 0)) ∧ H'[g]? = some (.cells cells 5 (0, 0)) ∧ cells.toList.take l.length = l.map byteV ∧ l.length + n ≤ cells.size ∧ cells.size ≤ maxLen ∧ g ≠ b ∧ Frm [b] H2 H' ∧ H2.size ≤ g, ?_, ?_⟩
        · have q1 : arithV .quo .i64 (.int .i64 c) (.int .i64 2) = some (.int .i64 ((c / 2 : Nat) : Int)) := by
            simp only [arithV]
            rw [if_pos ⟨trivial, trivial⟩, if_neg (by decide)]
            have : ((c : Int).tdiv 2) = ((c / 2 : Nat) : Int) := by rw [Int.tdiv_eq_ediv_of_nonneg (by omega)]; omega
            rw [this, wrap_i64 (by omega) (by omega)]
          have e2 : IntKind.i64.wrap (((c / 2 : Nat) : Int) - (l.length : Int)) = ((c / 2 : Nat) : Int) - (l.length : Int) := wrap_i64 (by omega) (by omega)
          have d1 : decide ((n : Int) ≤ ((c / 2 : Nat) : Int) - (l.length : Int)) = false := by simp; omega
          have e3 : IntKind.i64.wrap (9223372036854775807 - (c : Int)) = 9223372036854775807 - (c : Int) := wrap_i64 (by omega) (by omega)
          have e4 : IntKind.i64.wrap (9223372036854775807 - (c : Int) - (n : Int)) = 9223372036854775807 - (c : Int) - (n : Int) := wrap_i64 (by omega) (by omega)
          have d2 : decide ((c : Int) > 9223372036854775807 - (c : Int) - (n : Int)) = false := by simp; omega
          have e5 : IntKind.i64.wrap (0 + (n : Int)) = (n : Int) := by rw [wrap_i64 (by omega) (by omega)]; omega
          have s1 : sliceV 1 (.slice base l.length c) (some (.int .i64 0)) none none = some (.slice base l.length c) := by
            have := sliceV_lo (a := base) (n := l.length) (c := c) (size := 1) (lo := 0) (Nat.zero_le _) .i64
            rw [show ((0 : Nat) : Int) = 0 from rfl] at this
            rw [this]
            cases base with
            | none => simp
            | some a => simp [Addr.add]
          simp only [Q0, Q1, Q2, Q3, Q4, Q5, Q6, Q7, Q8, Q9, Qa, Qb, Qc, Qd, Qe, Qf, Qg, Qh, Qi, Qj, Qk, Ql, Qm, Qn, Qo, Qp, Qq, Qr, Qs, q1, e2, d1, e3, e4, d2, e5, s1, cellH_of h]
          have hn1 : 1 ≤ n := by omega
          cases k with
          | none =>
            obtain ⟨h1, hl0⟩ := ho
            subst hl0
            cases h1
            refine (growNil_ok hn1 (by omega)).mono ?_
            rintro x H3 ⟨cap2, cells, rfl, hg3, hsz, hle, hmx, f3⟩
            refine Store_of (f3.get h (by simp)) (by simp) rfl fun H4 hb4 f4 z4 => ?_
            simp only [Qt, Qu, Qv] at hb4
            refine ⟨H2.size, cells, by rw [hb4, hsz]; rfl, f4.get hg3 (by simp; omega), rfl, by simp; omega, by omega, by omega, (f3.mono (by simp)).trans f4, Nat.le_refl _⟩
          | some g =>
            obtain ⟨cells, h1, hg, ht, hle, hm, hne⟩ := ho
            cases h1
            refine (growSlice_ok hg rfl hle hn1 (by omega) (by omega) (by rw [ht]; exact byteV_one l)).mono ?_
            rintro x H3 ⟨cap2, cells2, rfl, hg3, hsz, htk, hle2, hmx, f3⟩
            refine Store_of (f3.get h (by simp)) (by simp) rfl fun H4 hb4 f4 z4 => ?_
            simp only [Qt, Qu, Qv] at hb4
            refine ⟨H2.size, cells2, by rw [hb4, hsz], f4.get hg3 (by simp; omega), by rw [htk, ht], by omega, by omega, by omega, (f3.mono (by simp)).trans f4, Nat.le_refl _⟩
        · rintro _ H3 ⟨g, cells, hb3, hg3, ht, hle, hmx, hne, f3, hge⟩
          have e6 : IntKind.i64.wrap ((l.length : Int) + (n : Int)) = ((l.length + n : Nat) : Int) := by rw [wrap_i64 (by omega) (by omega)]; omega
          refine Store_of hb3 (by simp) rfl fun H4 hb4 f4 z4 => ?_
          simp only [Qt, Qu, Qv] at hb4
          simp only [Q0, Q1, Q2, Q3, Q4, Q5, Q6, Q7, Q8, Q9, Qa, Qb, Qc, Qd, Qe, Qf, Qg, Qh, Qi, Qj, Qk, Ql, Qm, Qn, Qo, Qp, Qq, Qr, Qs, cellH_of hb4, e6]
          rw [sliceV_hi (by omega), Q6]
          refine Store_of hb4 (by simp) rfl fun H5 hb5 f5 z5 => ?_
          simp only [Qt, Qu, Qv] at hb5
          have f45 := f4.trans f5
          exact ⟨trivial, g, _, hb5, ⟨cells, rfl, f45.get hg3 (by simpa using hne), ht, hle, hmx, hne⟩, f3.trans f45, hge⟩
end Go.Cps
