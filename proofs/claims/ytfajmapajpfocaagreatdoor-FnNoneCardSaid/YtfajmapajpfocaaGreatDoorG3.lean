/-
  What the bodies of some functions of the program come to, at heap level, each proved of the program itself.
  Conditions: none. Written by gen.py.
-/
import Derived.Test.YtfajmapajpfocaaGreatDoorC11
set_option linter.all false
namespace Go.Cps
open Go Go.Proofs
set_option maxRecDepth 100000

/-- impl.Write -/
def c10 (a0 a1 : Value) (H : Heap) (R : Value → Heap → Prop) : Prop :=
  New (.cells #[(.slice none 0 0), (.int .i64 0), (.int .i8 0)] 55 (0, 0)) H fun x6 H =>
  Get (some (Value.iface 58 x6)) fun x13 =>
  CallsH Tryz.prog 30 #[x13] H fun x14 H =>
  CallsH Tryz.prog 31 #[x14, a0] H fun x17 H =>
  Get (nilV2 .neq .nilIface x17) fun x18 =>
  Br x18 (
  R (.tuple #[(.slice none 0 0), (.bool false)]) H) (
  Get (lenV a1) fun x20 =>
  Loop [(.int .i64 0)] H fun K1 vs2 H =>
  Get (arithV .lss .i64 (nth vs2 0) x20) fun x22 =>
  Br x22 (
  Get (elemAddrV 2 a1 (nth vs2 0)) fun x23 =>
  Get (loadNV 2 x23 H) fun x24 =>
  New (.cells #[(.slice none 0 0), (.slice none 0 0)] 39 (0, 0)) H fun x9 H =>
  Get (storeNV 2 x9 x24 H) fun H =>
  Get (fieldAddrV 0 x9) fun x27 =>
  Get (load1V x27 H) fun x28 =>
  CallsH Tryz.prog 33 #[x28] H fun x29 H =>
  CallsH Tryz.prog 32 #[x14, x29] H fun x30 H =>
  Get (extractV x30 0) fun x31 =>
  Get (extractV x30 1) fun x32 =>
  Get (nilV2 .neq .nilIface x32) fun x34 =>
  Br x34 (
  CallsH Tryz.prog 34 #[x6] H fun x35 H =>
  R (.tuple #[x35, (.bool false)]) H) (
  Get (fieldAddrV 1 x9) fun x39 =>
  Get (load1V x39 H) fun x40 =>
  Get (Instr.fill (fun j => some (j * 1, 1)) ((Array.range (0 * 1)).map ((#[(.int .u8 0)] : Array Value)[· % 1]!)) []) fun cs => NewSl cs 5 0 H fun x38 H =>
  (load1V x39 H = some x40 ∧ True) ∧
  Append 5 1 1 #[(.int .u8 0)] x38 x40 H fun x41 H =>
  Get (nilV (.func (.method "Write") #[x31] #[])) fun _ =>
  Invoke Tryz.prog "Write" x31 #[x41] H fun x45 H =>
  Get (extractV x45 0) fun _ =>
  Get (extractV x45 1) fun x47 =>
  Get (nilV2 .neq .nilIface x47) fun x49 =>
  Br x49 (
  CallsH Tryz.prog 34 #[x6] H fun x50 H =>
  R (.tuple #[x50, (.bool false)]) H) (
  Get (arithV .add .i64 (nth vs2 0) (.int .i64 1)) fun x51 =>
  K1 [x51] H))) (
  CallsH Tryz.prog 35 #[x14] H fun x53 H =>
  CallsH Tryz.prog 34 #[x6] H fun x54 H =>
  Get (nilV2 .eql .nilIface x53) fun x56 =>
  R (.tuple #[x54, x56]) H))
def p10 : Plan := .seq (.leaf []) (.seq (.leaf []) (.seq (.leaf []) (.seq (.seq (.leaf []) (.cond (.seq (.leaf []) (.leaf [])) (.leaf []))) (.seq (.seq (.leaf []) (.block (.loop [21] (.seq (.leaf []) (.seq (.cond (.leaf []) (.leaf [])) (.seq (.block (.seq (.leaf []) (.seq (.leaf []) (.seq (.seq (.leaf []) (.cond (.seq (.leaf []) (.leaf [])) (.leaf []))) (.seq (.leaf [0, 2, 3, 1, 4, 5, 6, 7, 8, 9, 10, 11, 12]) (.seq (.leaf []) (.cond (.seq (.leaf []) (.leaf [])) (.leaf [])))))))) (.leaf []))))))) (.seq (.leaf []) (.seq (.leaf [0, 1, 2, 3, 4]) (.leaf [])))))))
theorem s10 {a0 a1 : Value} {H : Heap} {R : Value → Heap → Prop} (h : c10 a0 a1 H R) : CallsH Tryz.prog 10 #[a0, a1] H R :=
  callsH_of_eq p10 (fn := Tryz.f10) (c := Tryz.f10.body.getD .skip) (args := [a0, a1]) Tryz.func10 (by kernel_rfl) mixed (by kernel_rfl) (by kernel_rfl) (by kernel_rfl) h

/-- pub/multipart.NewWriter -/
def c30 (a0 : Value) (H : Heap) (R : Value → Heap → Prop) : Prop :=
  Get ((fillV #[(0, 1), (1, 1), (2, 1)] #[.nilIface, (.string ⟨#[]⟩), (.pointer none)] [(0, a0), (1, (.string ⟨#[]⟩))]).map .agg) fun x4 =>
  New (.cells (Value.cells x4) 105 (0, 0)) H fun x5 H =>
  R x5 H
def p30 : Plan := .seq (.leaf []) (.seq (.leaf []) (.leaf []))
theorem s30 {a0 : Value} {H : Heap} {R : Value → Heap → Prop} (h : c30 a0 H R) : CallsH Tryz.prog 30 #[a0] H R :=
  callsH_of_eq p30 (fn := Tryz.f30) (c := Tryz.f30.body.getD .skip) (args := [a0]) Tryz.func30 (by kernel_rfl) mixed (by kernel_rfl) (by kernel_rfl) (by kernel_rfl) h

/-- (*pub/multipart.Writer).SetBoundary -/
def c31 (a0 a1 : Value) (H : Heap) (R : Value → Heap → Prop) : Prop :=
  Fld 2 a0 H fun x11 =>
  Get (nilV2 .neq (.pointer none) x11) fun x12 =>
  Br x12 (
  CallsH Tryz.prog 60 #[(.string ⟨#[109, 105, 109, 101, 58, 32, 83, 101, 116, 66, 111, 117, 110, 100, 97, 114, 121, 32, 99, 97, 108, 108, 101, 100, 32, 97, 102, 116, 101, 114, 32, 119, 114, 105, 116, 101]⟩)] H fun x13 H =>
  R x13 H) (
  Join (fun K1 =>
  Get (lenStrV a1) fun x15 =>
  Get (arithV .lss .i64 x15 (.int .i64 1)) fun x16 =>
  Br x16 (
  Get (pickV (.bool true) (.bool true) undef) fun x21 =>
  K1 [x21] H) (
  Get (lenStrV a1) fun x19 =>
  Get (arithV .gtr .i64 x19 (.int .i64 70)) fun x20 =>
  Get (pickV (.bool false) (.bool true) x20) fun x21_1 =>
  K1 [x21_1] H)) fun vs2 H =>
  Br (nth vs2 0) (
  CallsH Tryz.prog 60 #[(.string ⟨#[109, 105, 109, 101, 58, 32, 105, 110, 118, 97, 108, 105, 100, 32, 98, 111, 117, 110, 100, 97, 114, 121, 32, 108, 101, 110, 103, 116, 104]⟩)] H fun x22 H =>
  R x22 H) (
  Get (lenStrV a1) fun x24 =>
  Get (arithV .sub .i64 x24 (.int .i64 1)) fun x25 =>
  ExecV Tryz.prog (Instr.range 9 a1) H fun x27 H =>
  Loop [] H fun K3 _ H =>
  ExecV Tryz.prog (Instr.next x27 true 0) H fun x28 H =>
  Get (extractV x28 0) fun x29 =>
  Br x29 (
  Get (extractV x28 1) fun x30 =>
  Get (extractV x28 2) fun x31 =>
  Join (fun K5 =>
  Get (arithV .leq .i32 (.int .i32 65) x31) fun x33 =>
  Br x33 (
  Get (arithV .leq .i32 x31 (.int .i32 90)) fun x36 =>
  Get (pickV (.bool true) x36 (.bool false)) fun x37 =>
  Br x37 (
  Get (pickV (.bool true) (.bool true) undef) fun x45 =>
  Br x45 (
  Get (pickV (.bool true) (.bool true) undef) fun x53 =>
  K5 [x53] H) (
  Get (arithV .leq .i32 (.int .i32 48) x31) fun x48 =>
  Br x48 (
  Get (arithV .leq .i32 x31 (.int .i32 57)) fun x51 =>
  Get (pickV (.bool true) x51 (.bool false)) fun x52 =>
  Get (pickV (.bool false) (.bool true) x52) fun x53_1 =>
  K5 [x53_1] H) (
  Get (pickV (.bool false) undef (.bool false)) fun x52_1 =>
  Get (pickV (.bool false) (.bool true) x52_1) fun x53_2 =>
  K5 [x53_2] H))) (
  Get (arithV .leq .i32 (.int .i32 97) x31) fun x40 =>
  Br x40 (
  Get (arithV .leq .i32 x31 (.int .i32 122)) fun x43 =>
  Get (pickV (.bool true) x43 (.bool false)) fun x44 =>
  Get (pickV (.bool false) (.bool true) x44) fun x45_1 =>
  Br x45_1 (
  Get (pickV (.bool true) (.bool true) undef) fun x53_3 =>
  K5 [x53_3] H) (
  Get (arithV .leq .i32 (.int .i32 48) x31) fun x48_1 =>
  Br x48_1 (
  Get (arithV .leq .i32 x31 (.int .i32 57)) fun x51_1 =>
  Get (pickV (.bool true) x51_1 (.bool false)) fun x52_2 =>
  Get (pickV (.bool false) (.bool true) x52_2) fun x53_4 =>
  K5 [x53_4] H) (
  Get (pickV (.bool false) undef (.bool false)) fun x52_3 =>
  Get (pickV (.bool false) (.bool true) x52_3) fun x53_5 =>
  K5 [x53_5] H))) (
  Get (pickV (.bool false) undef (.bool false)) fun x44_1 =>
  Get (pickV (.bool false) (.bool true) x44_1) fun x45_2 =>
  Br x45_2 (
  Get (pickV (.bool true) (.bool true) undef) fun x53_6 =>
  K5 [x53_6] H) (
  Get (arithV .leq .i32 (.int .i32 48) x31) fun x48_2 =>
  Br x48_2 (
  Get (arithV .leq .i32 x31 (.int .i32 57)) fun x51_2 =>
  Get (pickV (.bool true) x51_2 (.bool false)) fun x52_4 =>
  Get (pickV (.bool false) (.bool true) x52_4) fun x53_7 =>
  K5 [x53_7] H) (
  Get (pickV (.bool false) undef (.bool false)) fun x52_5 =>
  Get (pickV (.bool false) (.bool true) x52_5) fun x53_8 =>
  K5 [x53_8] H))))) (
  Get (pickV (.bool false) undef (.bool false)) fun x37_1 =>
  Br x37_1 (
  Get (pickV (.bool true) (.bool true) undef) fun x45_3 =>
  Br x45_3 (
  Get (pickV (.bool true) (.bool true) undef) fun x53_9 =>
  K5 [x53_9] H) (
  Get (arithV .leq .i32 (.int .i32 48) x31) fun x48_3 =>
  Br x48_3 (
  Get (arithV .leq .i32 x31 (.int .i32 57)) fun x51_3 =>
  Get (pickV (.bool true) x51_3 (.bool false)) fun x52_6 =>
  Get (pickV (.bool false) (.bool true) x52_6) fun x53_10 =>
  K5 [x53_10] H) (
  Get (pickV (.bool false) undef (.bool false)) fun x52_7 =>
  Get (pickV (.bool false) (.bool true) x52_7) fun x53_11 =>
  K5 [x53_11] H))) (
  Get (arithV .leq .i32 (.int .i32 97) x31) fun x40_1 =>
  Br x40_1 (
  Get (arithV .leq .i32 x31 (.int .i32 122)) fun x43_1 =>
  Get (pickV (.bool true) x43_1 (.bool false)) fun x44_2 =>
  Get (pickV (.bool false) (.bool true) x44_2) fun x45_4 =>
  Br x45_4 (
  Get (pickV (.bool true) (.bool true) undef) fun x53_12 =>
  K5 [x53_12] H) (
  Get (arithV .leq .i32 (.int .i32 48) x31) fun x48_4 =>
  Br x48_4 (
  Get (arithV .leq .i32 x31 (.int .i32 57)) fun x51_4 =>
  Get (pickV (.bool true) x51_4 (.bool false)) fun x52_8 =>
  Get (pickV (.bool false) (.bool true) x52_8) fun x53_13 =>
  K5 [x53_13] H) (
  Get (pickV (.bool false) undef (.bool false)) fun x52_9 =>
  Get (pickV (.bool false) (.bool true) x52_9) fun x53_14 =>
  K5 [x53_14] H))) (
  Get (pickV (.bool false) undef (.bool false)) fun x44_3 =>
  Get (pickV (.bool false) (.bool true) x44_3) fun x45_5 =>
  Br x45_5 (
  Get (pickV (.bool true) (.bool true) undef) fun x53_15 =>
  K5 [x53_15] H) (
  Get (arithV .leq .i32 (.int .i32 48) x31) fun x48_5 =>
  Br x48_5 (
  Get (arithV .leq .i32 x31 (.int .i32 57)) fun x51_5 =>
  Get (pickV (.bool true) x51_5 (.bool false)) fun x52_10 =>
  Get (pickV (.bool false) (.bool true) x52_10) fun x53_16 =>
  K5 [x53_16] H) (
  Get (pickV (.bool false) undef (.bool false)) fun x52_11 =>
  Get (pickV (.bool false) (.bool true) x52_11) fun x53_17 =>
  K5 [x53_17] H)))))) fun vs6 H =>
  Br (nth vs6 0) (
  K3 [] H) (
  Join (fun K7 =>
  Join (fun K8 =>
  Get (arithV .eql .i32 x31 (.int .i32 39)) fun x56 =>
  Br x56 (
  K8 [x56] H) (
  Get (arithV .eql .i32 x31 (.int .i32 40)) fun x57 =>
  Br x57 (
  K8 [x57] H) (
  Get (arithV .eql .i32 x31 (.int .i32 41)) fun x58 =>
  Br x58 (
  K8 [x58] H) (
  Get (arithV .eql .i32 x31 (.int .i32 43)) fun x59 =>
  Br x59 (
  K8 [x59] H) (
  Get (arithV .eql .i32 x31 (.int .i32 95)) fun x60 =>
  Br x60 (
  K8 [x60] H) (
  Get (arithV .eql .i32 x31 (.int .i32 44)) fun x61 =>
  Br x61 (
  K8 [x61] H) (
  Get (arithV .eql .i32 x31 (.int .i32 45)) fun x62 =>
  Br x62 (
  K8 [x62] H) (
  Get (arithV .eql .i32 x31 (.int .i32 46)) fun x63 =>
  Br x63 (
  K8 [x63] H) (
  Get (arithV .eql .i32 x31 (.int .i32 47)) fun x64 =>
  Br x64 (
  K8 [x64] H) (
  Get (arithV .eql .i32 x31 (.int .i32 58)) fun x65 =>
  Br x65 (
  K8 [x65] H) (
  Get (arithV .eql .i32 x31 (.int .i32 61)) fun x66 =>
  Br x66 (
  K8 [x66] H) (
  Get (arithV .eql .i32 x31 (.int .i32 63)) fun x67 =>
  K8 [x67] H)))))))))))) fun vs9 H =>
  Br (nth vs9 0) (
  K3 [] H) (
  Get (arithV .eql .i32 x31 (.int .i32 32)) fun x69 =>
  Br x69 (
  Get (arithV .neq .i64 x30 x25) fun x72 =>
  Br x72 (
  K3 [] H) (
  K7 [] H)) (
  K7 [] H))) fun _ H =>
  CallsH Tryz.prog 60 #[(.string ⟨#[109, 105, 109, 101, 58, 32, 105, 110, 118, 97, 108, 105, 100, 32, 98, 111, 117, 110, 100, 97, 114, 121, 32, 99, 104, 97, 114, 97, 99, 116, 101, 114]⟩)] H fun x73 H =>
  R x73 H)) (
  Get (nilV a0) fun x76 =>
  Get (fieldAddrV 1 x76) fun x77 =>
  Get (store1V x77 a1 H) fun H =>
  R .nilIface H)))
def p31 : Plan := .seq (.leaf []) (.seq (.seq (.leaf []) (.cond (.seq (.leaf []) (.leaf [])) (.leaf []))) (.seq (.join [21] (.leaf []) (.cond (.seq (.leaf []) (.leaf [])) (.leaf []))) (.seq (.leaf []) (.seq (.seq (.leaf []) (.block (.loop [] (.seq (.leaf []) (.seq (.cond (.leaf []) (.leaf [])) (.block (.seq (.leaf []) (.seq (.join [53] (.leaf []) (.cond (.leaf []) (.leaf []))) (.join [] (.seq (.leaf []) (.block (.join [55] (.seq (.leaf []) (.cond (.leaf []) (.seq (.leaf []) (.cond (.leaf []) (.seq (.leaf []) (.cond (.leaf []) (.seq (.leaf []) (.cond (.leaf []) (.seq (.leaf []) (.cond (.leaf []) (.seq (.leaf []) (.cond (.leaf []) (.seq (.leaf []) (.cond (.leaf []) (.seq (.leaf []) (.cond (.leaf []) (.seq (.leaf []) (.cond (.leaf []) (.seq (.leaf []) (.cond (.leaf []) (.seq (.leaf []) (.cond (.leaf []) (.leaf []))))))))))))))))))))))) (.cond (.leaf []) (.seq (.leaf []) (.cond (.seq (.leaf []) (.cond (.leaf []) (.leaf []))) (.leaf []))))))) (.seq (.leaf []) (.leaf []))))))))))) (.seq (.leaf []) (.seq (.leaf []) (.leaf [])))))))
theorem s31 {a0 a1 : Value} {H : Heap} {R : Value → Heap → Prop} (h : c31 a0 a1 H R) : CallsH Tryz.prog 31 #[a0, a1] H R :=
  callsH_of_eq p31 (fn := Tryz.f31) (c := Tryz.f31.body.getD .skip) (args := [a0, a1]) Tryz.func31 (by kernel_rfl) mixed (by kernel_rfl) (by kernel_rfl) (by kernel_rfl) h

/-- (*pub/multipart.Writer).Close -/
def c35 (a0 : Value) (H : Heap) (R : Value → Heap → Prop) : Prop :=
  Join (fun K1 =>
  Fld 2 a0 H fun x9 =>
  Get (nilV2 .neq (.pointer none) x9) fun x10 =>
  Br x10 (
  Fld 2 a0 H fun x14 =>
  CallsH Tryz.prog 61 #[x14] H fun x15 H =>
  Get (nilV2 .neq .nilIface x15) fun x17 =>
  Br x17 (
  R x15 H) (
  Get (nilV a0) fun x20 =>
  Get (fieldAddrV 2 x20) fun x21 =>
  Get (store1V x21 (.pointer none) H) fun H =>
  K1 [] H)) (
  K1 [] H)) fun _ H =>
  Get (nilV a0) fun x24 =>
  Get (fieldAddrV 0 x24) fun x25 =>
  Get (load1V x25 H) fun x26 =>
  Fld 1 a0 H fun x30 =>
  Get (strV .add (.string ⟨#[13, 10, 45, 45]⟩) x30) fun x31 =>
  Get (strV .add x31 (.string ⟨#[45, 45, 13, 10]⟩)) fun x32 =>
  ToBytes 5 x32 H fun x33 H =>
  (load1V x25 H = some x26 ∧ True) ∧
  Get (nilV x26) fun _ =>
  Invoke Tryz.prog "Write" x26 #[x33] H fun x36 H =>
  Get (extractV x36 0) fun _ =>
  Get (extractV x36 1) fun x38 =>
  R x38 H
def p35 : Plan := .seq (.leaf []) (.join [] (.seq (.leaf []) (.cond (.seq (.seq (.leaf []) (.seq (.leaf []) (.cond (.seq (.leaf []) (.leaf [])) (.leaf [])))) (.leaf [])) (.leaf []))) (.seq (.leaf [0, 1, 2, 3, 4, 5, 6, 7, 8, 9, 10, 11, 12, 13, 14, 15, 16, 17, 18]) (.seq (.leaf []) (.leaf []))))
theorem s35 {a0 : Value} {H : Heap} {R : Value → Heap → Prop} (h : c35 a0 H R) : CallsH Tryz.prog 35 #[a0] H R :=
  callsH_of_eq p35 (fn := Tryz.f35) (c := Tryz.f35.body.getD .skip) (args := [a0]) Tryz.func35 (by kernel_rfl) mixed (by kernel_rfl) (by kernel_rfl) (by kernel_rfl) h

/-- (*bytes.Buffer).Write -/
def c209 (a0 a1 : Value) (H : Heap) (R : Value → Heap → Prop) : Prop :=
  Get (nilV a0) fun x9 =>
  Get (fieldAddrV 2 x9) fun x10 =>
  Get (store1V x10 (.int .i8 0) H) fun H =>
  Get (lenV a1) fun x14 =>
  CallsH Tryz.prog 83 #[a0, x14] H fun x15 H =>
  Get (extractV x15 0) fun x16 =>
  Get (extractV x15 1) fun x17 =>
  Join (fun K1 =>
  Get (unV .not x17) fun x19 =>
  Br x19 (
  Get (lenV a1) fun x22 =>
  CallsH Tryz.prog 84 #[a0, x22] H fun x23 H =>
  K1 [x23] H) (
  K1 [x16] H)) fun vs2 H =>
  Fld 0 a0 H fun x27 =>
  Get (sliceV 1 x27 (some (nth vs2 0)) none none) fun x29 =>
  Copy 1 x29 a1 H fun x31 H =>
  R (.tuple #[x31, .nilIface]) H
def p209 : Plan := .seq (.leaf []) (.seq (.leaf []) (.seq (.leaf []) (.join [6] (.seq (.leaf []) (.cond (.leaf []) (.leaf []))) (.seq (.leaf []) (.leaf [])))))
theorem s209 {a0 a1 : Value} {H : Heap} {R : Value → Heap → Prop} (h : c209 a0 a1 H R) : CallsH Tryz.prog 209 #[a0, a1] H R :=
  callsH_of_eq p209 (fn := Tryz.f209) (c := Tryz.f209.body.getD .skip) (args := [a0, a1]) Tryz.func209 (by kernel_rfl) mixed (by kernel_rfl) (by kernel_rfl) (by kernel_rfl) h

/-- (*bytes.Buffer).tryGrowByReslice -/
def c83 (a0 a1 : Value) (H : Heap) (R : Value → Heap → Prop) : Prop :=
  Fld 0 a0 H fun x10 =>
  Get (lenV x10) fun x11 =>
  Fld 0 a0 H fun x16 =>
  Get (capV x16) fun x17 =>
  Get (arithV .sub .i64 x17 x11) fun x19 =>
  Get (arithV .leq .i64 a1 x19) fun x20 =>
  Br x20 (
  Fld 0 a0 H fun x25 =>
  Get (arithV .add .i64 x11 a1) fun x28 =>
  Get (sliceV 1 x25 none (some x28) none) fun x29 =>
  Get (nilV a0) fun x30 =>
  Get (fieldAddrV 0 x30) fun x31 =>
  Get (store1V x31 x29 H) fun H =>
  R (.tuple #[x11, (.bool true)]) H) (
  R (.tuple #[(.int .i64 0), (.bool false)]) H)
def p83 : Plan := .seq (.leaf []) (.seq (.seq (.leaf []) (.seq (.leaf []) (.cond (.seq (.leaf []) (.seq (.leaf []) (.leaf []))) (.leaf [])))) (.seq (.leaf []) (.leaf [])))
theorem s83 {a0 a1 : Value} {H : Heap} {R : Value → Heap → Prop} (h : c83 a0 a1 H R) : CallsH Tryz.prog 83 #[a0, a1] H R :=
  callsH_of_eq p83 (fn := Tryz.f83) (c := Tryz.f83.body.getD .skip) (args := [a0, a1]) Tryz.func83 (by kernel_rfl) mixed (by kernel_rfl) (by kernel_rfl) (by kernel_rfl) h

/-- (*bytes.Buffer).grow -/
def c84 (a0 a1 : Value) (H : Heap) (R : Value → Heap → Prop) : Prop :=
  CallsH Tryz.prog 101 #[a0] H fun x10 H =>
  Join (fun K1 =>
  Join (fun K2 =>
  Get (arithV .eql .i64 x10 (.int .i64 0)) fun x12 =>
  Br x12 (
  Fld 1 a0 H fun x17 =>
  Get (arithV .neq .i64 x17 (.int .i64 0)) fun x18 =>
  Get (pickV (.bool true) x18 (.bool false)) fun x19 =>
  K2 [x19] H) (
  Get (pickV (.bool false) undef (.bool false)) fun x19_1 =>
  K2 [x19_1] H)) fun vs3 H =>
  Br (nth vs3 0) (
  CallsH Tryz.prog 102 #[a0] H fun _ H =>
  K1 [] H) (
  K1 [] H)) fun _ H =>
  CallsH Tryz.prog 83 #[a0, a1] H fun x25 H =>
  Get (extractV x25 0) fun x26 =>
  Get (extractV x25 1) fun x27 =>
  Br x27 (
  R x26 H) (
  Join (fun K5 =>
  Fld 0 a0 H fun x33 =>
  Get (nilV2 .eql (.slice none 0 0) x33) fun x34 =>
  Br x34 (
  Get (arithV .leq .i64 a1 (.int .i64 64)) fun x37 =>
  Get (pickV (.bool true) x37 (.bool false)) fun x38 =>
  K5 [x38] H) (
  Get (pickV (.bool false) undef (.bool false)) fun x38_1 =>
  K5 [x38_1] H)) fun vs6 H =>
  Br (nth vs6 0) (
  MakeSlice 5 1 1 #[(.int .u8 0)] a1 (.int .i64 64) H fun x41 H =>
  Get (nilV a0) fun x42 =>
  Get (fieldAddrV 0 x42) fun x43 =>
  Get (store1V x43 x41 H) fun H =>
  R (.int .i64 0) H) (
  Fld 0 a0 H fun x47 =>
  Get (capV x47) fun x48 =>
  Join (fun K7 =>
  Get (arithV .quo .i64 x48 (.int .i64 2)) fun x51 =>
  Get (arithV .sub .i64 x51 x10) fun x53 =>
  Get (arithV .leq .i64 a1 x53) fun x54 =>
  Br x54 (
  Fld 0 a0 H fun x58 =>
  Fld 0 a0 H fun x62 =>
  Fld 1 a0 H fun x66 =>
  Get (sliceV 1 x62 (some x66) none none) fun x67 =>
  Copy 1 x58 x67 H fun _ H =>
  K7 [] H) (
  Get (arithV .sub .i64 (.int .i64 9223372036854775807) x48) fun x71 =>
  Get (arithV .sub .i64 x71 a1) fun x73 =>
  Get (arithV .gtr .i64 x48 x73) fun x74 =>
  Br x74 (
  Get (load1V (.pointer (some ⟨1, 0, none⟩)) H) fun _ =>
  False) (
  Fld 0 a0 H fun x80 =>
  Fld 1 a0 H fun x84 =>
  Get (sliceV 1 x80 (some x84) none none) fun x85 =>
  Fld 1 a0 H fun x89 =>
  Get (arithV .add .i64 x89 a1) fun x91 =>
  CallsH Tryz.prog 103 #[x85, x91] H fun x92 H =>
  Get (nilV a0) fun x93 =>
  Get (fieldAddrV 0 x93) fun x94 =>
  Get (store1V x94 x92 H) fun H =>
  K7 [] H))) fun _ H =>
  Get (nilV a0) fun x96 =>
  Get (fieldAddrV 1 x96) fun x97 =>
  Get (store1V x97 (.int .i64 0) H) fun H =>
  Fld 0 a0 H fun x102 =>
  Get (arithV .add .i64 x10 a1) fun x105 =>
  Get (sliceV 1 x102 none (some x105) none) fun x106 =>
  Get (nilV a0) fun x107 =>
  Get (fieldAddrV 0 x107) fun x108 =>
  Get (store1V x108 x106 H) fun H =>
  R x10 H))
def p84 : Plan := .seq (.leaf []) (.seq (.leaf []) (.join [] (.join [19] (.leaf []) (.cond (.leaf []) (.leaf []))) (.seq (.seq (.leaf []) (.seq (.leaf []) (.cond (.seq (.leaf []) (.leaf [])) (.leaf [])))) (.seq (.join [38] (.leaf []) (.cond (.seq (.leaf []) (.seq (.leaf []) (.leaf []))) (.leaf []))) (.seq (.leaf []) (.join [] (.seq (.leaf []) (.cond (.leaf [0, 1, 2, 3, 4, 5, 6, 7, 8, 9, 10, 11, 12, 13]) (.seq (.leaf []) (.cond (.leaf []) (.leaf [0, 1, 2, 3, 4, 5, 6, 7, 8, 9, 10, 11, 12, 13, 14, 15, 16, 17, 18, 19]))))) (.seq (.leaf []) (.seq (.leaf []) (.seq (.leaf []) (.leaf []))))))))))
theorem s84 {a0 a1 : Value} {H : Heap} {R : Value → Heap → Prop} (h : c84 a0 a1 H R) : CallsH Tryz.prog 84 #[a0, a1] H R :=
  callsH_of_eq p84 (fn := Tryz.f84) (c := Tryz.f84.body.getD .skip) (args := [a0, a1]) Tryz.func84 (by kernel_rfl) mixed (by kernel_rfl) (by kernel_rfl) (by kernel_rfl) h

/-- (*bytes.Buffer).Bytes -/
def c34 (a0 : Value) (H : Heap) (R : Value → Heap → Prop) : Prop :=
  Fld 0 a0 H fun x6 =>
  Fld 1 a0 H fun x10 =>
  Get (sliceV 1 x6 (some x10) none none) fun x11 =>
  R x11 H
def p34 : Plan := .seq (.leaf []) (.seq (.leaf [0, 1, 2, 3, 4, 5, 6, 7, 8, 9]) (.leaf []))
theorem s34 {a0 : Value} {H : Heap} {R : Value → Heap → Prop} (h : c34 a0 H R) : CallsH Tryz.prog 34 #[a0] H R :=
  callsH_of_eq p34 (fn := Tryz.f34) (c := Tryz.f34.body.getD .skip) (args := [a0]) Tryz.func34 (by kernel_rfl) mixed (by kernel_rfl) (by kernel_rfl) (by kernel_rfl) h

end Go.Cps
