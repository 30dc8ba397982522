/-
  A part of the proof: What the bodies of some functions of the program come to, at heap level, each proved of the program itself. Interface values compared; type assertions that fail. A multipart Reader made over bytes: source, NewReader and what they call. multipart.NewReader: the state it makes.
  Conditions: each contract's own.
-/
import Derived.LaidEqlPtr
import Derived.Test.YteajpfckbnfdaaaGreatDoorH4
import Derived.Test.YteajpfckbnfdaaaGreatDoorH7
set_option linter.all false
namespace Go.Cps
open Go Go.Proofs
set_option maxRecDepth 100000
def c37 (a0 a1 : Value) (H : Heap) (R : Value → Heap → Prop) : Prop :=
  Get (strV .add (.string ⟨#[13, 10, 45, 45]⟩) a1) fun x7 =>
  Get (strV .add x7 (.string ⟨#[45, 45]⟩)) fun x8 =>
  ToBytes 5 x8 H fun x9 H =>
  Get ((fillV #[(0, 1), (1, 1)] #[.nilIface, .nilIface] [(0, a0)]).map .agg) fun x11 =>
  New (.cells (Value.cells x11) 74 (0, 0)) H fun x12 H =>
  Get (some (Value.iface 72 x12)) fun x13 =>
  CallsH Tryz.prog 31 #[x13, (.int .i64 4096)] H fun x14 H =>
  Get (sliceV 1 x9 none (some (.int .i64 2)) none) fun x16 =>
  Get (lenV x9) fun x19 =>
  Get (arithV .sub .i64 x19 (.int .i64 2)) fun x20 =>
  Get (sliceV 1 x9 none (some x20) none) fun x21 =>
  Get (sliceV 1 x9 (some (.int .i64 2)) none none) fun x23 =>
  Get (lenV x9) fun x26 =>
  Get (arithV .sub .i64 x26 (.int .i64 2)) fun x27 =>
  Get (sliceV 1 x9 (some (.int .i64 2)) (some x27) none) fun x28 =>
  Get ((fillV #[(0, 1), (1, 1), (2, 1), (3, 1), (4, 1), (5, 1), (6, 1), (7, 1)] #[(.pointer none), (.string ⟨#[]⟩), (.pointer none), (.int .i64 0), (.slice none 0 0), (.slice none 0 0), (.slice none 0 0), (.slice none 0 0)] [(0, x14), (4, x16), (5, x21), (6, x23), (7, x28)]).map .agg) fun x29 =>
  New (.cells (Value.cells x29) 76 (0, 0)) H fun x30 H =>
  R x30 H
def p37 : Plan := .seq (.leaf []) (.seq (.leaf []) (.seq (.leaf [0, 1, 2, 3, 4, 5, 6, 7, 8, 9, 10, 11, 12, 13, 14, 15, 16, 17, 18, 19, 20, 21]) (.leaf [])))
theorem s37 {a0 a1 : Value} {H : Heap} {R : Value → Heap → Prop} (h : c37 a0 a1 H R) : CallsH Tryz.prog 14 #[a0, a1] H R :=
  callsH_of_eq p37 (fn := Tryz.f14) (c := Tryz.f14.body.getD .skip) (args := [a0, a1]) Tryz.func14 (by kernel_rfl) mixed (by kernel_rfl) (by kernel_rfl) (by kernel_rfl) h
def c69 (a0 a1 : Value) (H : Heap) (R : Value → Heap → Prop) : Prop :=
  ExecV Tryz.prog (Instr.typeAssert a0 39 70 true) H fun x10 H =>
  Get (extractV x10 0) fun x11 =>
  Get (extractV x10 1) fun x12 =>
  Join (fun K1 =>
  Br x12 (
  Fld 0 x11 H fun x18 =>
  Get (lenV x18) fun x19 =>
  Get (arithV .geq .i64 x19 a1) fun x21 =>
  Get (pickV (.bool true) x21 (.bool false)) fun x22 =>
  K1 [x22] H) (
  Get (pickV (.bool false) undef (.bool false)) fun x22_1 =>
  K1 [x22_1] H)) fun vs2 H =>
  Br (nth vs2 0) (
  R x11 H) (
  New (.cells #[(.slice none 0 0), .nilIface, (.int .i64 0), (.int .i64 0), .nilIface, (.int .i64 0), (.int .i64 0)] 96 (0, 0)) H fun x24 H =>
  Get (maxV a1 (.int .i64 16)) fun x27 =>
  MakeSlice 5 1 1 #[(.int .u8 0)] x27 x27 H fun x28 H =>
  CallsH Tryz.prog 43 #[x24, x28, a0] H fun _ H =>
  R x24 H)
def p69 : Plan := .seq (.leaf []) (.seq (.leaf []) (.seq (.join [22] (.leaf []) (.cond (.seq (.leaf []) (.leaf [])) (.leaf []))) (.seq (.leaf []) (.seq (.leaf []) (.seq (.leaf []) (.leaf []))))))
theorem s69 {a0 a1 : Value} {H : Heap} {R : Value → Heap → Prop} (h : c69 a0 a1 H R) : CallsH Tryz.prog 31 #[a0, a1] H R :=
  callsH_of_eq p69 (fn := Tryz.f31) (c := Tryz.f31.body.getD .skip) (args := [a0, a1]) Tryz.func31 (by kernel_rfl) mixed (by kernel_rfl) (by kernel_rfl) (by kernel_rfl) h
def c70 (a0 : Value) (H : Heap) (R : Value → Heap → Prop) : Prop :=
  Get ((fillV #[(0, 1), (1, 1), (2, 1)] #[(.slice none 0 0), (.int .i64 0), (.int .i64 0)] [(0, a0), (1, (.int .i64 0)), (2, (.int .i64 (-1)))]).map .agg) fun x4 =>
  New (.cells (Value.cells x4) 99 (0, 0)) H fun x5 H =>
  R x5 H
def p70 : Plan := .seq (.leaf []) (.seq (.leaf []) (.leaf []))
theorem s70 {a0 : Value} {H : Heap} {R : Value → Heap → Prop} (h : c70 a0 H R) : CallsH Tryz.prog 32 #[a0] H R :=
  callsH_of_eq p70 (fn := Tryz.f32) (c := Tryz.f32.body.getD .skip) (args := [a0]) Tryz.func32 (by kernel_rfl) mixed (by kernel_rfl) (by kernel_rfl) (by kernel_rfl) h
def c38 (a0 : Value) (H : Heap) (R : Value → Heap → Prop) : Prop :=
  Get (Instr.fill (fun j => some (j * 1, 1)) ((Array.range (0 * 1)).map ((#[(.int .u8 0)] : Array Value)[· % 1]!)) []) fun cs => NewSl cs 5 0 H fun x3 H =>
  Append 5 1 1 #[(.int .u8 0)] x3 a0 H fun x5 H =>
  CallsH Tryz.prog 32 #[x5] H fun x6 H =>
  Get (some (Value.iface 77 x6)) fun x7 =>
  R x7 H
def p38 : Plan := .seq (.leaf []) (.seq (.leaf []) (.leaf []))
theorem s38 {a0 : Value} {H : Heap} {R : Value → Heap → Prop} (h : c38 a0 H R) : CallsH Tryz.prog 15 #[a0] H R :=
  callsH_of_eq p38 (fn := Tryz.f15) (c := Tryz.f15.body.getD .skip) (args := [a0]) Tryz.func15 (by kernel_rfl) mixed (by kernel_rfl) (by kernel_rfl) (by kernel_rfl) h
def c91 (a0 a1 a2 : Value) (H : Heap) (R : Value → Heap → Prop) : Prop :=
  Get ((fillV #[(0, 1), (1, 1), (2, 1), (3, 1), (4, 1), (5, 1), (6, 1)] #[(.slice none 0 0), .nilIface, (.int .i64 0), (.int .i64 0), .nilIface, (.int .i64 0), (.int .i64 0)] [(0, a1), (1, a2), (5, (.int .i64 (-1))), (6, (.int .i64 (-1)))]).map .agg) fun x9 =>
  Get (nilV a0) fun x10 =>
  Get (storeNV 7 x10 x9 H) fun H =>
  R (.tuple #[]) H
def p91 : Plan := .leaf []
theorem s91 {a0 a1 a2 : Value} {H : Heap} {R : Value → Heap → Prop} (h : c91 a0 a1 a2 H R) : CallsH Tryz.prog 43 #[a0, a1, a2] H R :=
  callsH_of_eq p91 (fn := Tryz.f43) (c := Tryz.f43.body.getD .skip) (args := [a0, a1, a2]) Tryz.func43 (by kernel_rfl) mixed (by kernel_rfl) (by kernel_rfl) (by kernel_rfl) h
def c71 (a0 a1 a2 a3 : Value) (H : Heap) (R : Value → Heap → Prop) : Prop :=
  Join (fun K1 =>
  Fld 2 a0 H fun x18 =>
  Get (nilV2 .neq (.pointer none) x18) fun x19 =>
  Br x19 (
  Fld 2 a0 H fun x23 =>
  CallsH Tryz.prog 44 #[x23] H fun _ H =>
  K1 [] H) (
  K1 [] H)) fun _ H =>
  Fld 7 a0 H fun x28 =>
  Get (bytesV x28 H) fun x29 =>
  Get (strV .eql x29 (.string ⟨#[45, 45]⟩)) fun x30 =>
  Br x30 (
  CallsH Tryz.prog 37 #[(.string ⟨#[109, 117, 108, 116, 105, 112, 97, 114, 116, 58, 32, 98, 111, 117, 110, 100, 97, 114, 121, 32, 105, 115, 32, 101, 109, 112, 116, 121]⟩)] H fun x31 H =>
  R (.tuple #[(.pointer none), x31]) H) (
  Loop [(.bool false)] H fun K3 vs4 H =>
  Fld 0 a0 H fun x36 =>
  CallsH Tryz.prog 45 #[x36, (.int .u8 10)] H fun x37 H =>
  Get (extractV x37 0) fun x38 =>
  Get (extractV x37 1) fun x39 =>
  Join (fun K5 =>
  Get (load1V (.pointer (some ⟨0, 0, none⟩)) H) fun x41 =>
  ExecV Tryz.prog (do eqGuard .eql 43 (.tmp 40) (.tmp 41) x39 x41; binOp .eql 43 x39 x41) H fun x42 H =>
  Br x42 (
  CallsH Tryz.prog 46 #[a0, x38] H fun x46 H =>
  Get (pickV (.bool true) x46 (.bool false)) fun x47 =>
  K5 [x47] H) (
  Get (pickV (.bool false) undef (.bool false)) fun x47_1 =>
  K5 [x47_1] H)) fun vs6 H =>
  Br (nth vs6 0) (
  Get (load1V (.pointer (some ⟨0, 0, none⟩)) H) fun x48 =>
  R (.tuple #[(.pointer none), x48]) H) (
  Get (nilV2 .neq .nilIface x39) fun x50 =>
  Br x50 (
  Get ((fillV #[(0, 1), (1, 1)] #[(.string ⟨#[]⟩), .nilIface] [(0, (.string ⟨#[109, 117, 108, 116, 105, 112, 97, 114, 116, 58, 32, 78, 101, 120, 116, 80, 97, 114, 116, 58, 32]⟩)), (1, x39)]).map .agg) fun x52 =>
  New (.cells (Value.cells x52) 105 (0, 0)) H fun x53 H =>
  Get (some (Value.iface 103 x53)) fun x54 =>
  R (.tuple #[(.pointer none), x54]) H) (
  CallsH Tryz.prog 47 #[a0, x38] H fun x57 H =>
  Br x57 (
  Fld 3 a0 H fun x61 =>
  Get (arithV .add .i64 x61 (.int .i64 1)) fun x62 =>
  Get (nilV a0) fun x63 =>
  Get (fieldAddrV 3 x63) fun x64 =>
  Get (store1V x64 x62 H) fun H =>
  CallsH Tryz.prog 48 #[a0, a1, a2, a3] H fun x70 H =>
  Get (extractV x70 0) fun x71 =>
  Get (extractV x70 1) fun x72 =>
  Get (nilV2 .neq .nilIface x72) fun x74 =>
  Br x74 (
  R (.tuple #[(.pointer none), x72]) H) (
  Get (nilV a0) fun x78 =>
  Get (fieldAddrV 2 x78) fun x79 =>
  Get (store1V x79 x71 H) fun H =>
  R (.tuple #[x71, .nilIface]) H)) (
  CallsH Tryz.prog 46 #[a0, x38] H fun x83 H =>
  Br x83 (
  Get (load1V (.pointer (some ⟨0, 0, none⟩)) H) fun x84 =>
  R (.tuple #[(.pointer none), x84]) H) (
  Br (nth vs4 0) (
  CallsH Tryz.prog 37 #[(.string ⟨#[109, 117, 108, 116, 105, 112, 97, 114, 116, 58, 32, 101, 120, 112, 101, 99, 116, 105, 110, 103, 32, 97, 32, 110, 101, 119, 32, 80, 97, 114, 116]⟩)] H fun x86 H =>
  R (.tuple #[(.pointer none), x86]) H) (
  Fld 3 a0 H fun x90 =>
  Get (arithV .eql .i64 x90 (.int .i64 0)) fun x91 =>
  Br x91 (
  K3 [(nth vs4 0)] H) (
  Fld 4 a0 H fun x96 =>
  CallsH Tryz.prog 27 #[x38, x96] H fun x97 H =>
  Br x97 (
  K3 [(.bool true)] H) (
  CallsH Tryz.prog 37 #[(.string ⟨#[109, 117, 108, 116, 105, 112, 97, 114, 116, 58, 32, 117, 110, 101, 120, 112, 101, 99, 116, 101, 100, 32, 108, 105, 110, 101, 32, 105, 110, 32, 78, 101, 120, 116, 40, 41]⟩)] H fun x98 H =>
  R (.tuple #[(.pointer none), x98]) H))))))))
def p71 : Plan := .seq (.leaf []) (.join [] (.seq (.leaf []) (.cond (.leaf []) (.leaf []))) (.seq (.seq (.leaf []) (.cond (.seq (.leaf []) (.leaf [])) (.leaf []))) (.seq (.leaf []) (.block (.loop [10] (.block (.seq (.leaf []) (.seq (.join [47] (.leaf []) (.cond (.seq (.leaf [0, 1, 2]) (.leaf [])) (.leaf []))) (.seq (.seq (.leaf []) (.cond (.seq (.leaf []) (.leaf [])) (.leaf []))) (.seq (.seq (.leaf []) (.cond (.seq (.leaf []) (.seq (.leaf []) (.seq (.seq (.leaf []) (.cond (.seq (.leaf []) (.leaf [])) (.leaf []))) (.seq (.leaf []) (.seq (.leaf []) (.leaf [])))))) (.leaf []))) (.seq (.seq (.leaf []) (.cond (.seq (.leaf [0, 1, 2]) (.leaf [])) (.leaf []))) (.seq (.seq (.leaf []) (.cond (.seq (.leaf []) (.leaf [])) (.leaf []))) (.seq (.seq (.leaf []) (.cond (.leaf []) (.leaf []))) (.seq (.seq (.leaf []) (.cond (.seq (.leaf []) (.leaf [])) (.leaf []))) (.seq (.leaf []) (.leaf []))))))))))))))))
theorem s71 {a0 a1 a2 a3 : Value} {H : Heap} {R : Value → Heap → Prop} (h : c71 a0 a1 a2 a3 H R) : CallsH Tryz.prog 33 #[a0, a1, a2, a3] H R :=
  callsH_of_eq p71 (fn := Tryz.f33) (c := Tryz.f33.body.getD .skip) (args := [a0, a1, a2, a3]) Tryz.func33 (by kernel_rfl) mixed (by kernel_rfl) (by kernel_rfl) (by kernel_rfl) h
def c72 (H : Heap) (R : Value → Heap → Prop) : Prop :=
  R (.int .i64 10000) H
def p72 : Plan := .seq (.leaf []) (.seq (.leaf []) (.leaf []))
theorem s72 {H : Heap} {R : Value → Heap → Prop} (h : c72  H R) : CallsH Tryz.prog 34 #[] H R :=
  callsH_of_eq p72 (fn := Tryz.f34) (c := Tryz.f34.body.getD .skip) (args := []) Tryz.func34 (by kernel_rfl) mixed (by kernel_rfl) (by kernel_rfl) (by kernel_rfl) h
def c66 (a0 : Value) (H : Heap) (R : Value → Heap → Prop) : Prop :=
  Get (load1V (.pointer (some ⟨0, 0, none⟩)) H) fun x4 =>
  ExecV Tryz.prog (do eqGuard .eql 43 (.tmp 3) (.tmp 4) a0 x4; binOp .eql 43 a0 x4) H fun x5 H =>
  Br x5 (
  R (.int .i64 1) H) (
  R (.int .i64 2) H)
def p66 : Plan := .seq (.leaf []) (.seq (.seq (.leaf []) (.cond (.seq (.leaf []) (.leaf [])) (.leaf []))) (.seq (.leaf []) (.leaf [])))
theorem s66 {a0 : Value} {H : Heap} {R : Value → Heap → Prop} (h : c66 a0 H R) : CallsH Tryz.prog 17 #[a0] H R :=
  callsH_of_eq p66 (fn := Tryz.f17) (c := Tryz.f17.body.getD .skip) (args := [a0]) Tryz.func17 (by kernel_rfl) mixed (by kernel_rfl) (by kernel_rfl) (by kernel_rfl) h
def c9 (a0 : Value) (H : Heap) (R : Value → Heap → Prop) : Prop :=
  Loop [(.int .i64 0)] H fun K1 vs2 H =>
  Get (lenStrV a0) fun x6 =>
  Get (arithV .lss .i64 (nth vs2 0) x6) fun x7 =>
  Br x7 (
  Join (fun K3 =>
  Get (strIndexV a0 (nth vs2 0)) fun x12 =>
  CallsH Tryz.prog 29 #[x12] H fun x13 H =>
  Get (unV .not x13) fun x14 =>
  Br x14 (
  Get (strIndexV a0 (nth vs2 0)) fun x18 =>
  CallsH Tryz.prog 30 #[(.string ⟨#[39, 40, 41, 43, 95, 44, 45, 46, 47, 58, 61, 63, 32]⟩), x18] H fun x19 H =>
  Get (unV .not x19) fun x20 =>
  Get (pickV (.bool true) x20 (.bool false)) fun x21 =>
  K3 [x21] H) (
  Get (pickV (.bool false) undef (.bool false)) fun x21_1 =>
  K3 [x21_1] H)) fun vs4 H =>
  Br (nth vs4 0) (
  R (.bool false) H) (
  Get (arithV .add .i64 (nth vs2 0) (.int .i64 1)) fun x9 =>
  K1 [x9] H)) (
  Join (fun K5 =>
  Get (lenStrV a0) fun x23 =>
  Get (arithV .gtr .i64 x23 (.int .i64 0)) fun x24 =>
  Br x24 (
  Get (lenStrV a0) fun x27 =>
  Get (arithV .leq .i64 x27 (.int .i64 70)) fun x28 =>
  Get (pickV (.bool true) x28 (.bool false)) fun x29 =>
  Br x29 (
  Get (lenStrV a0) fun x33 =>
  Get (arithV .sub .i64 x33 (.int .i64 1)) fun x34 =>
  Get (strIndexV a0 x34) fun x35 =>
  Get (arithV .neq .u8 x35 (.int .u8 32)) fun x36 =>
  Get (pickV (.bool true) x36 (.bool false)) fun x37 =>
  K5 [x37] H) (
  Get (pickV (.bool false) undef (.bool false)) fun x37_1 =>
  K5 [x37_1] H)) (
  Get (pickV (.bool false) undef (.bool false)) fun x29_1 =>
  Br x29_1 (
  Get (lenStrV a0) fun x33_1 =>
  Get (arithV .sub .i64 x33_1 (.int .i64 1)) fun x34_1 =>
  Get (strIndexV a0 x34_1) fun x35_1 =>
  Get (arithV .neq .u8 x35_1 (.int .u8 32)) fun x36_1 =>
  Get (pickV (.bool true) x36_1 (.bool false)) fun x37_2 =>
  K5 [x37_2] H) (
  Get (pickV (.bool false) undef (.bool false)) fun x37_3 =>
  K5 [x37_3] H))) fun vs6 H =>
  R (nth vs6 0) H)
def p9 : Plan := .seq (.leaf []) (.seq (.seq (.leaf []) (.block (.loop [3] (.seq (.seq (.leaf []) (.cond (.leaf []) (.leaf []))) (.seq (.block (.join [21] (.leaf []) (.cond (.seq (.leaf []) (.leaf [])) (.leaf [])))) (.leaf [])))))) (.join [2] (.leaf []) (.leaf [])))
theorem s9 {a0 : Value} {H : Heap} {R : Value → Heap → Prop} (h : c9 a0 H R) : CallsH Tryz.prog 13 #[a0] H R :=
  callsH_of_eq p9 (fn := Tryz.f13) (c := Tryz.f13.body.getD .skip) (args := [a0]) Tryz.func13 (by kernel_rfl) mixed (by kernel_rfl) (by kernel_rfl) (by kernel_rfl) h
def c28 (a0 : Value) (H : Heap) (R : Value → Heap → Prop) : Prop :=
  Join (fun K1 =>
  Get (arithV .geq .u8 a0 (.int .u8 97)) fun x4 =>
  Br x4 (
  Get (arithV .leq .u8 a0 (.int .u8 122)) fun x7 =>
  Get (pickV (.bool true) x7 (.bool false)) fun x8 =>
  Br x8 (
  Get (pickV (.bool true) (.bool true) undef) fun x16 =>
  Br x16 (
  Get (pickV (.bool true) (.bool true) undef) fun x24 =>
  K1 [x24] H) (
  Get (arithV .geq .u8 a0 (.int .u8 48)) fun x19 =>
  Br x19 (
  Get (arithV .leq .u8 a0 (.int .u8 57)) fun x22 =>
  Get (pickV (.bool true) x22 (.bool false)) fun x23 =>
  Get (pickV (.bool false) (.bool true) x23) fun x24_1 =>
  K1 [x24_1] H) (
  Get (pickV (.bool false) undef (.bool false)) fun x23_1 =>
  Get (pickV (.bool false) (.bool true) x23_1) fun x24_2 =>
  K1 [x24_2] H))) (
  Get (arithV .geq .u8 a0 (.int .u8 65)) fun x11 =>
  Br x11 (
  Get (arithV .leq .u8 a0 (.int .u8 90)) fun x14 =>
  Get (pickV (.bool true) x14 (.bool false)) fun x15 =>
  Get (pickV (.bool false) (.bool true) x15) fun x16_1 =>
  Br x16_1 (
  Get (pickV (.bool true) (.bool true) undef) fun x24_3 =>
  K1 [x24_3] H) (
  Get (arithV .geq .u8 a0 (.int .u8 48)) fun x19_1 =>
  Br x19_1 (
  Get (arithV .leq .u8 a0 (.int .u8 57)) fun x22_1 =>
  Get (pickV (.bool true) x22_1 (.bool false)) fun x23_2 =>
  Get (pickV (.bool false) (.bool true) x23_2) fun x24_4 =>
  K1 [x24_4] H) (
  Get (pickV (.bool false) undef (.bool false)) fun x23_3 =>
  Get (pickV (.bool false) (.bool true) x23_3) fun x24_5 =>
  K1 [x24_5] H))) (
  Get (pickV (.bool false) undef (.bool false)) fun x15_1 =>
  Get (pickV (.bool false) (.bool true) x15_1) fun x16_2 =>
  Br x16_2 (
  Get (pickV (.bool true) (.bool true) undef) fun x24_6 =>
  K1 [x24_6] H) (
  Get (arithV .geq .u8 a0 (.int .u8 48)) fun x19_2 =>
  Br x19_2 (
  Get (arithV .leq .u8 a0 (.int .u8 57)) fun x22_2 =>
  Get (pickV (.bool true) x22_2 (.bool false)) fun x23_4 =>
  Get (pickV (.bool false) (.bool true) x23_4) fun x24_7 =>
  K1 [x24_7] H) (
  Get (pickV (.bool false) undef (.bool false)) fun x23_5 =>
  Get (pickV (.bool false) (.bool true) x23_5) fun x24_8 =>
  K1 [x24_8] H))))) (
  Get (pickV (.bool false) undef (.bool false)) fun x8_1 =>
  Br x8_1 (
  Get (pickV (.bool true) (.bool true) undef) fun x16_3 =>
  Br x16_3 (
  Get (pickV (.bool true) (.bool true) undef) fun x24_9 =>
  K1 [x24_9] H) (
  Get (arithV .geq .u8 a0 (.int .u8 48)) fun x19_3 =>
  Br x19_3 (
  Get (arithV .leq .u8 a0 (.int .u8 57)) fun x22_3 =>
  Get (pickV (.bool true) x22_3 (.bool false)) fun x23_6 =>
  Get (pickV (.bool false) (.bool true) x23_6) fun x24_10 =>
  K1 [x24_10] H) (
  Get (pickV (.bool false) undef (.bool false)) fun x23_7 =>
  Get (pickV (.bool false) (.bool true) x23_7) fun x24_11 =>
  K1 [x24_11] H))) (
  Get (arithV .geq .u8 a0 (.int .u8 65)) fun x11_1 =>
  Br x11_1 (
  Get (arithV .leq .u8 a0 (.int .u8 90)) fun x14_1 =>
  Get (pickV (.bool true) x14_1 (.bool false)) fun x15_2 =>
  Get (pickV (.bool false) (.bool true) x15_2) fun x16_4 =>
  Br x16_4 (
  Get (pickV (.bool true) (.bool true) undef) fun x24_12 =>
  K1 [x24_12] H) (
  Get (arithV .geq .u8 a0 (.int .u8 48)) fun x19_4 =>
  Br x19_4 (
  Get (arithV .leq .u8 a0 (.int .u8 57)) fun x22_4 =>
  Get (pickV (.bool true) x22_4 (.bool false)) fun x23_8 =>
  Get (pickV (.bool false) (.bool true) x23_8) fun x24_13 =>
  K1 [x24_13] H) (
  Get (pickV (.bool false) undef (.bool false)) fun x23_9 =>
  Get (pickV (.bool false) (.bool true) x23_9) fun x24_14 =>
  K1 [x24_14] H))) (
  Get (pickV (.bool false) undef (.bool false)) fun x15_3 =>
  Get (pickV (.bool false) (.bool true) x15_3) fun x16_5 =>
  Br x16_5 (
  Get (pickV (.bool true) (.bool true) undef) fun x24_15 =>
  K1 [x24_15] H) (
  Get (arithV .geq .u8 a0 (.int .u8 48)) fun x19_5 =>
  Br x19_5 (
  Get (arithV .leq .u8 a0 (.int .u8 57)) fun x22_5 =>
  Get (pickV (.bool true) x22_5 (.bool false)) fun x23_10 =>
  Get (pickV (.bool false) (.bool true) x23_10) fun x24_16 =>
  K1 [x24_16] H) (
  Get (pickV (.bool false) undef (.bool false)) fun x23_11 =>
  Get (pickV (.bool false) (.bool true) x23_11) fun x24_17 =>
  K1 [x24_17] H)))))) fun vs2 H =>
  R (nth vs2 0) H
def p28 : Plan := .seq (.leaf []) (.join [2] (.leaf []) (.leaf []))
theorem s28 {a0 : Value} {H : Heap} {R : Value → Heap → Prop} (h : c28 a0 H R) : CallsH Tryz.prog 29 #[a0] H R :=
  callsH_of_eq p28 (fn := Tryz.f29) (c := Tryz.f29.body.getD .skip) (args := [a0]) Tryz.func29 (by kernel_rfl) mixed (by kernel_rfl) (by kernel_rfl) (by kernel_rfl) h
def c29 (a0 a1 : Value) (H : Heap) (R : Value → Heap → Prop) : Prop :=
  Loop [(.int .i64 0)] H fun K1 vs2 H =>
  Get (lenStrV a0) fun x8 =>
  Get (arithV .lss .i64 (nth vs2 0) x8) fun x9 =>
  Br x9 (
  Get (strIndexV a0 (nth vs2 0)) fun x14 =>
  Get (arithV .eql .u8 x14 a1) fun x16 =>
  Br x16 (
  R (.bool true) H) (
  Get (arithV .add .i64 (nth vs2 0) (.int .i64 1)) fun x11 =>
  K1 [x11] H)) (
  R (.bool false) H)
def p29 : Plan := .seq (.leaf []) (.seq (.seq (.leaf []) (.block (.loop [5] (.seq (.seq (.leaf []) (.cond (.leaf []) (.leaf []))) (.seq (.block (.seq (.leaf []) (.cond (.seq (.leaf []) (.leaf [])) (.leaf [])))) (.leaf [])))))) (.seq (.leaf []) (.leaf [])))
theorem s29 {a0 a1 : Value} {H : Heap} {R : Value → Heap → Prop} (h : c29 a0 a1 H R) : CallsH Tryz.prog 30 #[a0, a1] H R :=
  callsH_of_eq p29 (fn := Tryz.f30) (c := Tryz.f30.body.getD .skip) (args := [a0, a1]) Tryz.func30 (by kernel_rfl) mixed (by kernel_rfl) (by kernel_rfl) (by kernel_rfl) h
end Go.Cps
namespace Go.Cps
open Go Go.Proofs
theorem eqRun_nil (t : TypeId) (v : Value) (i j : Nat) (w : World) : (do eqGuard .eql 43 (.tmp i) (.tmp j) .nilIface (.iface t v); binOp .eql 43 .nilIface (.iface t v) : Sem Value).run Tryz.prog w = .ok (.bool false) w := by kernel_rfl
theorem und60 : ∃ ms, Tryz.prog.underlying 43 = some (.interface ms) := by
  have h : (match Tryz.prog.underlying 43 with | some (.interface _) => true | _ => false) = true := by kernel_rfl
  split at h
  · rename_i ms hm; exact ⟨ms, hm⟩
  · contradiction
theorem info138 : ∃ i, Tryz.prog.info? 109 = some i ∧ i.comparable = true := by
  have h : (Tryz.prog.info? 109).map (·.comparable) = some true := by kernel_rfl
  cases hi : Tryz.prog.info? 109 with
  | none => rw [hi] at h; simp at h
  | some i => rw [hi] at h; exact ⟨i, rfl, by simpa using h⟩
theorem und138 : Tryz.prog.underlying 109 = some (.pointer 111) := by kernel_rfl
theorem info140 : ∃ i, Tryz.prog.info? 111 = some i ∧ i.size ≠ 0 := by
  have h : (Tryz.prog.info? 111).map (·.size == 0) = some false := by kernel_rfl
  cases hi : Tryz.prog.info? 111 with
  | none => rw [hi] at h; simp at h
  | some i => rw [hi] at h; exact ⟨i, rfl, by simpa using h⟩
theorem eqRun_same (a : Addr) (i j : Nat) (w : World) : (do eqGuard .eql 43 (.tmp i) (.tmp j) (.iface 109 (.pointer (some a))) (.iface 109 (.pointer (some a))); binOp .eql 43 (.iface 109 (.pointer (some a))) (.iface 109 (.pointer (some a))) : Sem Value).run Tryz.prog w = .ok (.bool true) w := by
  obtain ⟨ms, h60⟩ := und60
  obtain ⟨i1, h138, hc⟩ := info138
  obtain ⟨i2, h140, hz⟩ := info140
  have h1 : ∀ d : Nat, (Op.equalIn (d + 1) 109 (.pointer (some a)) (.pointer (some a))).run Tryz.prog w = .ok true w := fun d => by
    simp [Op.equalIn, run_underlying und138, sizeOf, typeInfo, h140, run_sameAddr_same]
  have h2 : ∀ d : Nat, (Op.equalIn (d + 2) 43 (.iface 109 (.pointer (some a))) (.iface 109 (.pointer (some a)))).run Tryz.prog w = .ok true w := fun d => by
    rw [Op.equalIn]
    simp [run_underlying h60, typeInfo, h138, hc, h1 d]
  simp only [binOp, eqGuard]
  simp [Op.equal, Op.maxDepth, h2 9998]
theorem eqRun_other {a b : Addr} {ca cb : Array Value} {ta tb : TypeId} (hne : a ≠ b) (i j : Nat) (w : World) (ha : w.heap[a.block]? = some (.cells ca ta (0, 0))) (hb : w.heap[b.block]? = some (.cells cb tb (0, 0))) : (do eqGuard .eql 43 (.tmp i) (.tmp j) (.iface 109 (.pointer (some a))) (.iface 109 (.pointer (some b))); binOp .eql 43 (.iface 109 (.pointer (some a))) (.iface 109 (.pointer (some b))) : Sem Value).run Tryz.prog w = .ok (.bool false) w := by
  obtain ⟨ms, h60⟩ := und60
  obtain ⟨i1, h138, hc⟩ := info138
  obtain ⟨i2, h140, hz⟩ := info140
  have h1 : ∀ d : Nat, (Op.equalIn (d + 1) 109 (.pointer (some a)) (.pointer (some b))).run Tryz.prog w = .ok false w := fun d => by
    simp [Op.equalIn, run_underlying und138, sizeOf, typeInfo, h140, hz, run_sameAddr_other w hne ha hb]
  have h2 : ∀ d : Nat, (Op.equalIn (d + 2) 43 (.iface 109 (.pointer (some a))) (.iface 109 (.pointer (some b)))).run Tryz.prog w = .ok false w := fun d => by
    rw [Op.equalIn]
    simp [run_underlying h60, typeInfo, h138, hc, h1 d]
  simp only [binOp, eqGuard]
  simp [Op.equal, Op.maxDepth, h2 9998]
theorem assertRun (v : Value) (w : World) : (Instr.typeAssert (.iface 72 v) 39 70 true).run Tryz.prog w = .ok (.tuple #[.pointer none, .bool false]) w := by kernel_rfl
theorem ExecV.eq {P : Program} {s : Sem Value} {H : Heap} {K : Value → Heap → Prop} {v : Value} (h : ∀ w, w.heap = H → s.run P w = .ok v w) : ExecV P s H K = K v H := by
  apply propext
  unfold ExecV
  constructor
  · intro hh
    have h1 := hh (at_ H) rfl
    have h2 := h (at_ H) rfl
    generalize s.run P (at_ H) = q at *
    subst h2
    exact h1.2
  · intro hk w hw
    have h2 := h w hw
    generalize s.run P w = q at *
    subst h2
    exact ⟨Same.refl w, by rw [hw]; exact hk⟩
section
attribute [local irreducible] Sem.run
theorem tassert {r : Value} {H : Heap} {K : Value → Heap → Prop} : ExecV Tryz.prog (Instr.typeAssert (.iface 72 r) 39 70 true) H K = K (.tuple #[.pointer none, .bool false]) H := ExecV.eq fun w _ => assertRun r w
theorem eq_nil {t : TypeId} {v : Value} {i j : Nat} {H : Heap} {K : Value → Heap → Prop} : ExecV Tryz.prog (do eqGuard .eql 43 (.tmp i) (.tmp j) .nilIface (.iface t v); binOp .eql 43 .nilIface (.iface t v)) H K = K (.bool false) H :=
  ExecV.eq fun w _ => eqRun_nil t v i j w
theorem eq_same {a : Addr} {i j : Nat} {H : Heap} {K : Value → Heap → Prop} : ExecV Tryz.prog (do eqGuard .eql 43 (.tmp i) (.tmp j) (.iface 109 (.pointer (some a))) (.iface 109 (.pointer (some a))); binOp .eql 43 (.iface 109 (.pointer (some a))) (.iface 109 (.pointer (some a)))) H K = K (.bool true) H :=
  ExecV.eq fun w _ => eqRun_same a i j w
theorem eq_other {a b : Addr} {ca cb : Array Value} {ta tb : TypeId} {i j : Nat} {H : Heap} {K : Value → Heap → Prop} (hne : a ≠ b) (ha : H[a.block]? = some (.cells ca ta (0, 0))) (hb : H[b.block]? = some (.cells cb tb (0, 0))) : ExecV Tryz.prog (do eqGuard .eql 43 (.tmp i) (.tmp j) (.iface 109 (.pointer (some a))) (.iface 109 (.pointer (some b))); binOp .eql 43 (.iface 109 (.pointer (some a))) (.iface 109 (.pointer (some b)))) H K = K (.bool false) H :=
  ExecV.eq fun w hw => by subst hw; exact eqRun_other hne i j w ha hb
end
end Go.Cps
namespace Go.Cps
open Go Go.Proofs
def strVal (l : List UInt8) : Value := .string ⟨l.toArray⟩
theorem bstr_append (a b : List UInt8) : ((⟨a.toArray⟩ : ByteArray) ++ ⟨b.toArray⟩) = ⟨(a ++ b).toArray⟩ := by
  apply ByteArray.ext
  rw [ByteArray.data_append]
  simp
theorem bstr_size (a : List UInt8) : (⟨a.toArray⟩ : ByteArray).size = a.length := by simp [ByteArray.size]
theorem strV_add {a b : List UInt8} (h : a.length + b.length < 2 ^ 62) : strV .add (strVal a) (strVal b) = some (strVal (a ++ b)) := by
  simp only [strVal, strV, bstr_size, bstr_append]
  rw [if_pos (by omega)]
def Row (H : Heap) (b : Nat) (l : List UInt8) : Prop := ∀ j, j < l.length → cellH H ⟨b, j, none⟩ = (l[j]?).map byteV
theorem Row.bytes {H : Heap} {b : Nat} {l : List UInt8} (h : Row H b l) {o n c : Nat} (hn : o + n ≤ l.length) (hc : n ≤ c) : IsBytes H (.slice (some ⟨b, o, none⟩) n c) ((l.drop o).take n) := by
  have hl : ((l.drop o).take n).length = n := by simp; omega
  refine .inl ⟨b, o, c, by rw [hl], by rw [hl]; exact hc, fun j hj => ?_⟩
  rw [hl] at hj
  rw [h _ (by omega), List.getElem?_take, if_pos hj, List.getElem?_drop]
theorem Row.frm {H H' : Heap} {b : Nat} {l : List UInt8} {X : List Nat} (h : Row H b l) (f : Frm X H H') (hb : b ∉ X) (hs : b < H.size) : Row H' b l := by
  intro j hj
  rw [← h j hj]
  simp only [cellH, f.same b hs hb]
theorem Row.of {H : Heap} {b : Nat} {l : List UInt8} {z : Array Value} {t : TypeId} {f : Nat × Nat} (h : H[b]? = some (.cells ((l.map byteV).toArray ++ z) t f)) : Row H b l := by
  intro j hj
  rw [cellH_of h, Array.getElem?_append_left (by simpa using hj)]
  simp
theorem toBytes_of {l : List UInt8} {e : TypeId} {H : Heap} {K : Value → Heap → Prop} (h : ∀ c H', l.length ≤ c → Row H' H.size l → Frm [] H H' → H'.size = H.size + 1 → K (.slice (some ⟨H.size, 0, none⟩) l.length c) H') : ToBytes e (strVal l) H K := by
  refine ⟨_, rfl, fun c hc => ?_⟩
  rw [bstr_size] at hc ⊢
  refine h c _ hc (Row.of (z := Array.replicate (c - l.length) (.int .u8 0)) (t := e) (f := (c, c + 1)) ?_) (Frm.push _ _ _) (by simp)
  rw [push_same]
  congr 3
  simp [byteV]
theorem nextcap0 (n : Nat) : Builtin.nextslicecap n 0 = n := by
  unfold Builtin.nextslicecap
  split
  · rfl
  · simp_all
theorem append_empty {b : Option Addr} {x : Value} {l : List UInt8} {H : Heap} {K : Value → Heap → Prop} (hx : IsBytes H x l) (hl : l.length < 2 ^ 48) (h0 : l = [] → K (.slice b 0 0) H)
    (h : ∀ c H', l.length ≤ c → Row H' H.size l → Frm [] H H' → H'.size = H.size + 1 → (∃ z, H'[H.size]? = some (.cells ((l.map byteV).toArray ++ z) 5 (0, 0)) ∧ z.size = c - l.length) → K (.slice (some ⟨H.size, 0, none⟩) l.length c) H') :
    Append 5 1 1 #[.int .u8 0] (.slice b 0 0) x H K := by
  obtain ⟨h1, h2⟩ := hx.elems (m := l.length) (Nat.le_refl _)
  rw [List.take_length] at h1
  refine ⟨b, 0, 0, l.length, _, rfl, h2, h1, ?_⟩
  by_cases hz : l = []
  · subst hz
    refine .inl ⟨by simp, ?_⟩
    cases b with
    | none => exact ⟨_, rfl, h0 rfl⟩
    | some a => exact ⟨_, rfl, h0 rfl⟩
  · have : 0 < l.length := List.length_pos_iff.2 hz
    refine .inr ⟨by omega, by omega, by rw [nextcap0]; omega, [], ?_, fun c hc => ?_⟩
    · cases b <;> rfl
    · simp only [Nat.zero_add] at hc ⊢
      refine h c _ hc (Row.of (z := zeros #[.int .u8 0] (c - l.length)) (t := 5) (f := (0, 0)) (by rw [push_same]; simp)) (Frm.push _ _ _) (by simp) ⟨zeros #[.int .u8 0] (c - l.length), by rw [push_same]; simp, ?_⟩
      simp [zeros, Builtin.zeroCells]
theorem cells_one {v : Value} (h : isOne v = true) : v.cells = #[v] := by cases v <;> first | rfl | simp [isOne] at h
theorem fill_cons {place : Nat → Option (Nat × Nat)} {cs : Array Value} {i off : Nat} {v : Value} {r : List (Nat × Value)} (hv : isOne v = true) (hp : place i = some (off, 1)) (ho : off < cs.size) : Instr.fill place cs ((i, v) :: r) = Instr.fill place (cs.setIfInBounds off v) r := by
  have h1 : ¬ (cs.size < off + 1) := by omega
  simp [Instr.fill, hp, cells_one hv, h1]
theorem fillV_cons {ps : Array (Nat × Nat)} {cs : Array Value} {i off : Nat} {v : Value} {r : List (Nat × Value)} (hv : isOne v = true) (hp : ps[i]? = some (off, 1)) (ho : off < cs.size) : fillV ps cs ((i, v) :: r) = fillV ps (cs.setIfInBounds off v) r := fill_cons hv hp ho
theorem fillV_nil {ps : Array (Nat × Nat)} {cs : Array Value} : fillV ps cs [] = some cs := rfl
theorem newReaderB_ok {v : Value} {H : Heap} (hv : isOne v = true) : CallsH Tryz.prog 32 #[v] H fun x H' => x = .pointer (some ⟨H.size, 0, none⟩) ∧ H' = H.push (.cells #[v, .int .i64 0, .int .i64 (-1)] 99 (0, 0)) := by
  apply s70
  have e : fillV #[(0, 1), (1, 1), (2, 1)] #[(.slice none 0 0), (.int .i64 0), (.int .i64 0)] [(0, v), (1, (.int .i64 0)), (2, (.int .i64 (-1)))] = some #[v, .int .i64 0, .int .i64 (-1)] := by
    rw [fillV_cons hv rfl (by simp), fillV_cons rfl rfl (by simp), fillV_cons rfl rfl (by simp), fillV_nil]
    rfl
  simp only [c70, e, Option.map_some, Q6, New, Value.cells, and_self]
theorem source_ok {a : Value} {l : List UInt8} {H : Heap} (ha : IsBytes H a l) (hl : l.length < 2 ^ 40) :
    CallsH Tryz.prog 15 #[a] H fun x H' => ∃ br v, x = .iface 77 (.pointer (some ⟨br, 0, none⟩)) ∧ H'[br]? = some (.cells #[v, .int .i64 0, .int .i64 (-1)] 99 (0, 0)) ∧ IsBytes H' v l ∧ Frm [] H H' ∧ H.size ≤ br ∧ (∀ x, blk v = some x → H.size ≤ x ∧ x ≠ br ∧ x < H'.size) ∧ br < H'.size := by
  apply s38
  have e : Instr.fill (fun j => some (j * 1, 1)) ((Array.range (0 * 1)).map ((#[(.int .u8 0)] : Array Value)[· % 1]!)) [] = some #[] := by kernel_rfl
  simp only [c38, e, Q6, NewSl]
  have f0 : Frm [] H (H.push (.cells #[] 5 (0, 0))) := Frm.push _ _ _
  refine append_empty (ha.frm f0 (by simp)) (by omega) (fun hz => ?_) (fun c H' hc hr f z _ => ?_)
  · refine (newReaderB_ok rfl).mono ?_
    rintro x H' ⟨rfl, rfl⟩
    refine ⟨_, _, rfl, push_same _ _, .inl ⟨H.size, 0, 0, by rw [hz]; rfl, by rw [hz]; simp, fun j hj => by rw [hz] at hj; simp at hj⟩, f0.trans (Frm.push _ _ _), by simp, ?_, by simp⟩
    intro x hx
    simp [blk] at hx
    simp; omega
  · refine (newReaderB_ok rfl).mono ?_
    rintro x H'' ⟨rfl, rfl⟩
    have hb := (hr.frm (Frm.push [] _ (.cells #[.slice (some ⟨(H.push (.cells #[] 5 (0, 0))).size, 0, none⟩) l.length c, .int .i64 0, .int .i64 (-1)] 99 (0, 0))) (by simp) (by omega)).bytes (o := 0) (n := l.length) (c := c) (by omega) hc
    refine ⟨_, _, rfl, push_same _ _, by simpa using hb, (f0.trans f).trans (Frm.push _ _ _), by simp at z; omega, ?_, by simp⟩
    intro x hx
    simp only [blk, Option.some.injEq, Array.size_push] at hx z ⊢
    omega
theorem reset_ok {b : Nat} {cs : Array Value} {t : TypeId} {u r : Value} {H : Heap} (h : H[b]? = some (.cells cs t (0, 0))) (hc : cs.size = 7) (hu : isOne u = true) (hr : isOne r = true) :
    CallsH Tryz.prog 43 #[.pointer (some ⟨b, 0, none⟩), u, r] H fun x H' => H'[b]? = some (.cells #[u, r, .int .i64 0, .int .i64 0, .nilIface, .int .i64 (-1), .int .i64 (-1)] t (0, 0)) ∧ Frm [b] H H' ∧ H'.size = H.size := by
  apply s91
  have e : fillV #[(0, 1), (1, 1), (2, 1), (3, 1), (4, 1), (5, 1), (6, 1)] #[(.slice none 0 0), .nilIface, (.int .i64 0), (.int .i64 0), .nilIface, (.int .i64 0), (.int .i64 0)] [(0, u), (1, r), (5, (.int .i64 (-1))), (6, (.int .i64 (-1)))] = some #[u, r, .int .i64 0, .int .i64 0, .nilIface, .int .i64 (-1), .int .i64 (-1)] := by
    rw [fillV_cons hu rfl (by decide), fillV_cons hr rfl (by simp), fillV_cons rfl rfl (by simp), fillV_cons rfl rfl (by simp), fillV_nil]
    rfl
  have hst := stores_upd [u, r, .int .i64 0, .int .i64 0, .nilIface, .int .i64 (-1), .int .i64 (-1)] H b 0 0 cs t h (by simp [hc]) (by
    intro v hv
    simp only [List.mem_cons, List.not_mem_nil, or_false] at hv
    rcases hv with rfl | rfl | rfl | rfl | rfl | rfl | rfl <;> first | assumption | rfl)
  have hp : putAt cs (0 + 0) [u, r, .int .i64 0, .int .i64 0, .nilIface, .int .i64 (-1), .int .i64 (-1)] = #[u, r, .int .i64 0, .int .i64 0, .nilIface, .int .i64 (-1), .int .i64 (-1)] := by
    apply Array.ext_getElem?
    intro i
    rw [putAt_get _ _ _ _ (by simp [hc])]
    split
    · simp
    · rename_i hi
      simp at hi
      rw [Array.getElem?_eq_none (by omega), Array.getElem?_eq_none (by simp; omega)]
  rw [hp] at hst
  have hs : storeNV 7 (.pointer (some ⟨b, 0, none⟩)) (.agg #[u, r, .int .i64 0, .int .i64 0, .nilIface, .int .i64 (-1), .int .i64 (-1)]) H = some (upd H b (.cells #[u, r, .int .i64 0, .int .i64 0, .nilIface, .int .i64 (-1), .int .i64 (-1)] t (0, 0))) := by
    exact hst
  simp only [c91, e, Option.map_some, Q0, Q1, Q2, Q3, Q4, Q5, Q6, Q7, Q8, Q9, Qa, Qb, Qc, Qd, Qe, Qf, Qg, Qh, Qi, Qj, hs]
  exact ⟨upd_same (lt_of_some h), Frm.upd _ (by simp), by simp⟩
theorem zeros_eq (n : Nat) : ((Array.range (n * 1)).map ((#[(.int .u8 0)] : Array Value)[· % 1]!)) = ((List.replicate n (0 : UInt8)).map byteV).toArray := by
  apply Array.ext_getElem?
  intro i
  by_cases hi : i < n
  · simp [hi, Nat.mod_one, byteV]
  · simp [hi]
def zbuf (n : Nat) : List UInt8 := List.replicate n 0
theorem zbuf_length (n : Nat) : (zbuf n).length = n := by simp [zbuf]
theorem makeBytes_of {n : Nat} {H : Heap} {K : Value → Heap → Prop} (hn : n < 2 ^ 47) (h : K (.slice (some ⟨H.size, 0, none⟩) n n) (H.push (.cells ((zbuf n).map byteV).toArray 5 (0, 0)))) :
    MakeSlice 5 1 1 #[.int .u8 0] (.int .i64 n) (.int .i64 n) H K := by
  refine ⟨.i64, .i64, n, n, rfl, rfl, Nat.le_refl _, by omega, by omega, ?_⟩
  have e1 : (#[(.int .u8 0)] : Array Value).size = 1 := rfl
  rw [e1, zeros_eq n]
  exact h
theorem newSize_ok {r : Value} {H : Heap} :
    CallsH Tryz.prog 31 #[.iface 72 r, .int .i64 4096] H fun x H' => ∃ b bf, x = .pointer (some ⟨b, 0, none⟩) ∧ H.size ≤ b ∧ H.size ≤ bf ∧ b ≠ bf ∧
      H'[b]? = some (.cells #[.slice (some ⟨bf, 0, none⟩) 4096 4096, .iface 72 r, .int .i64 0, .int .i64 0, .nilIface, .int .i64 (-1), .int .i64 (-1)] 96 (0, 0)) ∧
      H'[bf]? = some (.cells ((zbuf 4096).map byteV).toArray 5 (0, 0)) ∧ Frm [] H H' := by
  apply s69
  unfold c69
  rw [tassert]
  have hmax : maxV (.int .i64 4096) (.int .i64 16) = some (.int .i64 ((4096 : Nat) : Int)) := rfl
  simp only [Q0, Q1, Q2, Q3, Q4, Q5, Q6, Q7, Q8, Q9, Qa, Qb, Qc, Qd, Qe, Qf, Qg, Qh, Qi, Qj]
  refine Join_direct ?_
  simp only [Q0, Q1, Q2, Q3, Q4, Q5, Q6, Q7, Q8, Q9, Qa, Qb, Qc, Qd, Qe, Qf, Qg, Qh, Qi, Qj, Bool.false_eq_true, if_false, hmax, New]
  refine makeBytes_of (n := 4096) (by omega) ?_
  refine (reset_ok (b := H.size) (cs := #[(.slice none 0 0), .nilIface, (.int .i64 0), (.int .i64 0), .nilIface, (.int .i64 0), (.int .i64 0)]) (t := 96) (push_old (push_same _ _)) rfl rfl rfl).mono ?_
  rintro x H' ⟨hb, f, z⟩
  refine ⟨H.size, _, rfl, Nat.le_refl _, ?_, ?_, hb, f.get (push_same _ _) (by simp), ?_⟩
  · simp
  · simp
  · refine ⟨by rw [z]; simp; omega, fun k hk _ => ?_⟩
    rw [f.same k (by simp; omega) (by simp; omega), Array.getElem?_push, if_neg (by simp; omega), Array.getElem?_push, if_neg (by omega)]
end Go.Cps
namespace Go.Cps
open Go Go.Proofs
structure MRAt (S : Stk) (mr tb : Nat) (m : MRf) (bd : List UInt8) (H : Heap) : Prop where
  hm : H[mr]? = some (.cells m.cells 76 (0, 0))
  hbr : m.br = .pointer (some ⟨S.b, 0, none⟩)
  nl : IsBytes H m.nl [13, 10]
  nld : IsBytes H m.nld ([13, 10, 45, 45] ++ bd)
  dd : IsBytes H m.dd ([45, 45] ++ bd ++ [45, 45])
  dash : IsBytes H m.dash ([45, 45] ++ bd)
  bl : blk m.nl = some tb ∧ blk m.nld = some tb ∧ blk m.dd = some tb ∧ blk m.dash = some tb
  ht : tb ∉ mr :: S.ids
  hmr : mr ∉ S.ids
  hv : blk S.v ≠ some mr
  h0 : mr ≠ 0
theorem MRAt.frm {S : Stk} {mr tb : Nat} {m : MRf} {bd : List UInt8} {H H' : Heap} {X : List Nat} (h : MRAt S mr tb m bd H) (f : Frm X H H') (h1 : mr ∉ X) (h2 : tb ∉ X) : MRAt S mr tb m bd H' :=
  { h with hm := f.get h.hm h1, nl := h.nl.frm f (fun x hx => by rw [h.bl.1] at hx; cases hx; exact h2), nld := h.nld.frm f (fun x hx => by rw [h.bl.2.1] at hx; cases hx; exact h2), dd := h.dd.frm f (fun x hx => by rw [h.bl.2.2.1] at hx; cases hx; exact h2), dash := h.dash.frm f (fun x hx => by rw [h.bl.2.2.2] at hx; cases hx; exact h2) }
theorem MRAt.ids {S : Stk} {mr tb : Nat} {m : MRf} {bd : List UInt8} {H H' : Heap} (h : MRAt S mr tb m bd H) (f : Frm S.ids H H') : MRAt S mr tb m bd H' :=
  h.frm f h.hmr (fun hx => h.ht (List.mem_cons_of_mem _ hx))
theorem newReader_ok {br : Nat} {e : Addr} {v : Value} {l bd : List UInt8} {H : Heap} (hbr : H[br]? = some (.cells #[v, .int .i64 0, .int .i64 (-1)] 99 (0, 0))) (hv : IsBytes H v l) (hvb : ∀ x, blk v = some x → x ≠ br ∧ x < H.size) (hE : EOFat H (.iface 109 (.pointer (some e))))
    (hb0 : br ≠ 0) (hl : l.length < 2 ^ 62) (hbd : bd.length < 1000) :
    CallsH Tryz.prog 14 #[.iface 77 (.pointer (some ⟨br, 0, none⟩)), strVal bd] H fun x H' => ∃ S s mr tb m, x = .pointer (some ⟨mr, 0, none⟩) ∧ RdAt S s H' ∧ MRAt S mr tb m bd H' ∧ s.rest S = l ∧ s.err = false ∧ m.parts = 0 ∧ m.cur = .pointer none ∧
      S.Et = 109 ∧ S.Ev = .pointer (some e) ∧ Frm [] H H' ∧ (∀ y ∈ mr :: tb :: S.ids, y ≠ br → H.size ≤ y) ∧ S.br = br ∧ S.v = v ∧ S.tbf = 5 ∧ tb < H'.size := by
  have hH0 : 0 < H.size := by obtain ⟨t, f, h⟩ := hE; exact lt_of_some h
  have hbrs := lt_of_some hbr
  apply s37
  have e1 : strV .add (.string ⟨#[13, 10, 45, 45]⟩) (strVal bd) = some (strVal ([13, 10, 45, 45] ++ bd)) := strV_add (a := [13, 10, 45, 45]) (b := bd) (by simp; omega)
  have e2 : strV .add (strVal ([13, 10, 45, 45] ++ bd)) (.string ⟨#[45, 45]⟩) = some (strVal ([13, 10, 45, 45] ++ bd ++ [45, 45])) := strV_add (a := [13, 10, 45, 45] ++ bd) (b := [45, 45]) (by simp; omega)
  simp only [c37, e1, e2, Q6]
  refine toBytes_of fun c H1 hc hr1 f1 z1 => ?_
  have e3 : fillV #[(0, 1), (1, 1)] #[.nilIface, .nilIface] [(0, .iface 77 (.pointer (some ⟨br, 0, none⟩)))] = some #[.iface 77 (.pointer (some ⟨br, 0, none⟩)), .nilIface] := by
    rw [fillV_cons rfl rfl (by simp), fillV_nil]; rfl
  simp only [e3, Option.map_some, Q6, New, Value.cells]
  have hr2 : Row (H1.push (.cells #[.iface 77 (.pointer (some ⟨br, 0, none⟩)), .nilIface] 74 (0, 0))) H.size ([13, 10, 45, 45] ++ bd ++ [45, 45]) := hr1.frm (Frm.push [] _ _) (by simp) (by omega)
  generalize hH2 : H1.push (.cells #[.iface 77 (.pointer (some ⟨br, 0, none⟩)), .nilIface] 74 (0, 0)) = H2 at *
  have f2 : Frm [] H1 H2 := by rw [← hH2]; exact Frm.push _ _ _
  have z2 : H2.size = H.size + 2 := by rw [← hH2]; simp; omega
  have hst2 : H2[H1.size]? = some (.cells #[.iface 77 (.pointer (some ⟨br, 0, none⟩)), .nilIface] 74 (0, 0)) := by rw [← hH2]; exact push_same _ _
  refine newSize_ok.mono ?_
  rintro x H3 ⟨b, bf, rfl, hb1, hbf1, hne, hb, hbf, f3⟩
  have hlen : ([13, 10, 45, 45] ++ bd ++ [45, 45]).length = bd.length + 6 := by simp
  rw [hlen] at hc
  rw [hlen]
  have w1 : IntKind.i64.wrap (((bd.length + 6 : Nat) : Int) - 2) = ((bd.length + 4 : Nat) : Int) := by rw [wrap_i64 (by omega) (by omega)]; omega
  have g1 : sliceV 1 (.slice (some ⟨H.size, 0, none⟩) (bd.length + 6) c) none (some (.int .i64 2)) none = some (.slice (some ⟨H.size, 0, none⟩) 2 c) := sliceV_hi (hi := 2) (by omega) .i64
  have g2 : sliceV 1 (.slice (some ⟨H.size, 0, none⟩) (bd.length + 6) c) none (some (.int .i64 ((bd.length + 4 : Nat) : Int))) none = some (.slice (some ⟨H.size, 0, none⟩) (bd.length + 4) c) := sliceV_hi (by omega) .i64
  have g3 : sliceV 1 (.slice (some ⟨H.size, 0, none⟩) (bd.length + 6) c) (some (.int .i64 2)) none none = some (.slice (some ⟨H.size, 2, none⟩) (bd.length + 4) (c - 2)) := by
    have := sliceV_lo (a := some ⟨H.size, 0, none⟩) (n := bd.length + 6) (c := c) (size := 1) (lo := 2) (by omega) .i64
    rw [if_neg (by omega)] at this
    simpa using this
  have g4 : sliceV 1 (.slice (some ⟨H.size, 0, none⟩) (bd.length + 6) c) (some (.int .i64 2)) (some (.int .i64 ((bd.length + 4 : Nat) : Int))) none = some (.slice (some ⟨H.size, 2, none⟩) (bd.length + 2) (c - 2)) := by
    have := sliceV_of (a := some ⟨H.size, 0, none⟩) (n := bd.length + 6) (c := c) (size := 1) (lo := 2) (hi := bd.length + 4) (by omega) (by omega) .i64 .i64
    rw [if_neg (by omega)] at this
    simpa using this
  have e4 : fillV #[(0, 1), (1, 1), (2, 1), (3, 1), (4, 1), (5, 1), (6, 1), (7, 1)] #[(.pointer none), (.string ⟨#[]⟩), (.pointer none), (.int .i64 0), (.slice none 0 0), (.slice none 0 0), (.slice none 0 0), (.slice none 0 0)]
      [(0, .pointer (some ⟨b, 0, none⟩)), (4, .slice (some ⟨H.size, 0, none⟩) 2 c), (5, .slice (some ⟨H.size, 0, none⟩) (bd.length + 4) c), (6, .slice (some ⟨H.size, 2, none⟩) (bd.length + 4) (c - 2)), (7, .slice (some ⟨H.size, 2, none⟩) (bd.length + 2) (c - 2))] =
      some #[.pointer (some ⟨b, 0, none⟩), (.string ⟨#[]⟩), (.pointer none), (.int .i64 0), .slice (some ⟨H.size, 0, none⟩) 2 c, .slice (some ⟨H.size, 0, none⟩) (bd.length + 4) c, .slice (some ⟨H.size, 2, none⟩) (bd.length + 4) (c - 2), .slice (some ⟨H.size, 2, none⟩) (bd.length + 2) (c - 2)] := by
    rw [fillV_cons rfl rfl (by simp), fillV_cons rfl rfl (by simp), fillV_cons rfl rfl (by simp), fillV_cons rfl rfl (by simp), fillV_cons rfl rfl (by simp), fillV_nil]; rfl
  simp only [Q0, Q1, Q2, Q3, Q4, Q5, Q6, Q7, Q8, Q9, Qa, Qb, Qc, Qd, Qe, Qf, Qg, Qh, Qi, Qj, Qk, Ql, Qm, Qn, Qo, Qp, Qq, Qr, Qs, w1, g1, g2, g3, g4, e4, Option.map_some, Value.cells, New]
  have f4 : Frm [] H3 (H3.push (.cells #[.pointer (some ⟨b, 0, none⟩), (.string ⟨#[]⟩), (.pointer none), (.int .i64 0), .slice (some ⟨H.size, 0, none⟩) 2 c, .slice (some ⟨H.size, 0, none⟩) (bd.length + 4) c, .slice (some ⟨H.size, 2, none⟩) (bd.length + 4) (c - 2), .slice (some ⟨H.size, 2, none⟩) (bd.length + 2) (c - 2)] 76 (0, 0))) := Frm.push _ _ _
  have hm4 := push_same H3 (.cells #[.pointer (some ⟨b, 0, none⟩), (.string ⟨#[]⟩), (.pointer none), (.int .i64 0), .slice (some ⟨H.size, 0, none⟩) 2 c, .slice (some ⟨H.size, 0, none⟩) (bd.length + 4) c, .slice (some ⟨H.size, 2, none⟩) (bd.length + 4) (c - 2), .slice (some ⟨H.size, 2, none⟩) (bd.length + 2) (c - 2)] 76 (0, 0))
  generalize hH4 : H3.push _ = H4 at *
  have f : Frm [] H H4 := ((f1.trans f2).trans f3).trans f4
  have hr4 : Row H4 H.size ([13, 10, 45, 45] ++ bd ++ [45, 45]) := hr2.frm (f3.trans f4) (by simp) (by omega)
  have z3 : H2.size ≤ H3.size := f3.size
  have sb := lt_of_some hb
  have sbf := lt_of_some hbf
  have hd2 : ([13, 10, 45, 45] ++ bd ++ [45, 45]).drop 2 = [45, 45] ++ bd ++ [45, 45] := by simp
  refine ⟨⟨b, bf, H1.size, br, 96, 5, 74, 99, v, l, 109, .pointer (some e)⟩, ⟨zbuf 4096, 0, 0, 0, false, false, -1, -1, .int .i64 (-1)⟩, H3.size, H.size, ⟨.pointer (some ⟨b, 0, none⟩), .string ⟨#[]⟩, .pointer none, 0, .slice (some ⟨H.size, 0, none⟩) 2 c, .slice (some ⟨H.size, 0, none⟩) (bd.length + 4) c, .slice (some ⟨H.size, 2, none⟩) (bd.length + 4) (c - 2), .slice (some ⟨H.size, 2, none⟩) (bd.length + 2) (c - 2)⟩,
    rfl, ?_, ?_, ?_, rfl, rfl, rfl, rfl, rfl, f, ?_, rfl, rfl, rfl, by have := f4.size; omega⟩
  · refine { hb := f4.get hb (by simp), hbf := f4.get hbf (by simp), hst := (f3.trans f4).get hst2 (by simp), hbr := f.get hbr (by simp), hv := hv.frm f (by simp), hE := hE.frm f (by simp), blen := zbuf_length _, rw := Nat.le_refl _, w4 := by simp, pl := Nat.zero_le _, he := (fun h => by cases h), hs := (fun h => by cases h), small := hl, d0 := ?_, d1 := ?_, d2 := ?_ }
    · simp [Stk.ids]; omega
    · simp [Stk.ids]; omega
    · intro x hx
      have := hvb x hx
      simp [Stk.ids]; omega
  · refine { hm := hm4, hbr := rfl, nl := ?_, nld := ?_, dd := ?_, dash := ?_, bl := ⟨rfl, rfl, rfl, rfl⟩, ht := ?_, hmr := ?_, hv := ?_, h0 := ?_ }
    · have := hr4.bytes (o := 0) (n := 2) (c := c) (by rw [hlen]; omega) (by omega)
      simpa using this
    · have := hr4.bytes (o := 0) (n := bd.length + 4) (c := c) (by rw [hlen]; omega) (by omega)
      rw [List.drop_zero, List.take_left' (by simp)] at this
      exact this
    · have := hr4.bytes (o := 2) (n := bd.length + 4) (c := c - 2) (by rw [hlen]; omega) (by omega)
      rw [hd2, List.take_of_length_le (by simp)] at this
      exact this
    · have := hr4.bytes (o := 2) (n := bd.length + 2) (c := c - 2) (by rw [hlen]; omega) (by omega)
      rw [hd2, List.take_left' (by simp)] at this
      exact this
    · simp [Stk.ids]; omega
    · simp [Stk.ids]; omega
    · intro hx
      have := hvb _ hx
      omega
    · omega
  · simp [St.rest]
  · intro y hy hyb
    simp [Stk.ids] at hy
    omega
end Go.Cps
