/-
  A part of the proof: What the bodies of some functions of the program come to, at heap level, each proved of the program itself.
  Conditions: each contract's own.
-/
import Derived.Test.YteajpfckbnfdaaaGreatDoorH4
set_option linter.all false
namespace Go.Cps
open Go Go.Proofs
set_option maxRecDepth 100000
def c165 (a0 : Value) (H : Heap) (R : Value → Heap → Prop) : Prop :=
  Fld 0 a0 H fun x10 =>
  CallsH Tryz.prog 169 #[x10, (.int .i64 1)] H fun _ H =>
  Fld 0 a0 H fun x15 =>
  CallsH Tryz.prog 61 #[x15] H fun x16 H =>
  Get (arithV .eql .i64 x16 (.int .i64 0)) fun x18 =>
  Br x18 (
  R (.int .i64 0) H) (
  Fld 0 a0 H fun x23 =>
  CallsH Tryz.prog 169 #[x23, x16] H fun x25 H =>
  Get (extractV x25 0) fun x26 =>
  Get (extractV x25 1) fun _ =>
  Join (fun K1 =>
  Loop [(.int .i64 0), x26] H fun K2 vs3 H =>
  Join (fun K4 =>
  Get (lenV (nth vs3 1)) fun x29 =>
  Get (arithV .gtr .i64 x29 (.int .i64 0)) fun x30 =>
  Br x30 (
  Get (arithV .lss .i64 (nth vs3 0) (.int .i64 1000)) fun x33 =>
  Get (pickV (.bool true) x33 (.bool false)) fun x34 =>
  K4 [x34] H) (
  Get (pickV (.bool false) undef (.bool false)) fun x34_1 =>
  K4 [x34_1] H)) fun vs5 H =>
  Br (nth vs5 0) (
  Get (Instr.fill (fun j => some (j * 1, 1)) ((Array.range (1 * 1)).map ((#[(.int .u8 0)] : Array Value)[· % 1]!)) [(0, (.int .u8 10))]) fun cs => NewSl cs 5 1 H fun x37 H =>
  MarkS x37 H fun x38 H =>
  CallsH Tryz.prog 173 #[(nth vs3 1), x38] H fun x39 H =>
  Get (extractV x39 0) fun x40 =>
  Get (extractV x39 1) fun x41 =>
  Get (extractV x39 2) fun _ =>
  Join (fun K6 =>
  Get (lenV x40) fun x44 =>
  Get (arithV .eql .i64 x44 (.int .i64 0)) fun x45 =>
  Br x45 (
  Get (pickV (.bool true) (.bool true) undef) fun x56 =>
  K6 [x56] H) (
  Get (lenV x40) fun x48 =>
  Get (arithV .eql .i64 x48 (.int .i64 1)) fun x49 =>
  Br x49 (
  Get (elemAddrV 1 x40 (.int .i64 0)) fun x52 =>
  Get (load1V x52 H) fun x53 =>
  Get (arithV .eql .u8 x53 (.int .u8 13)) fun x54 =>
  Get (pickV (.bool true) x54 (.bool false)) fun x55 =>
  Get (pickV (.bool false) (.bool true) x55) fun x56_1 =>
  K6 [x56_1] H) (
  Get (pickV (.bool false) undef (.bool false)) fun x55_1 =>
  Get (pickV (.bool false) (.bool true) x55_1) fun x56_2 =>
  K6 [x56_2] H))) fun vs7 H =>
  Br (nth vs7 0) (
  K1 [(nth vs3 0)] H) (
  Join (fun K8 =>
  Get (elemAddrV 1 x40 (.int .i64 0)) fun x58 =>
  Get (load1V x58 H) fun x59 =>
  Get (arithV .eql .u8 x59 (.int .u8 32)) fun x60 =>
  Br x60 (
  Get (pickV (.bool true) (.bool true) undef) fun x66 =>
  K8 [x66] H) (
  Get (elemAddrV 1 x40 (.int .i64 0)) fun x63 =>
  Get (load1V x63 H) fun x64 =>
  Get (arithV .eql .u8 x64 (.int .u8 9)) fun x65 =>
  Get (pickV (.bool false) (.bool true) x65) fun x66_1 =>
  K8 [x66_1] H)) fun vs9 H =>
  Br (nth vs9 0) (
  K2 [(nth vs3 0), x41] H) (
  Get (arithV .add .i64 (nth vs3 0) (.int .i64 1)) fun x68 =>
  K2 [x68, x41] H))) (
  K1 [(nth vs3 0)] H)) fun vs10 H =>
  R (nth vs10 0) H)
def p165 : Plan := .seq (.leaf []) (.seq (.leaf []) (.seq (.leaf []) (.seq (.seq (.leaf []) (.cond (.leaf []) (.leaf []))) (.seq (.leaf []) (.join [2] (.block (.loop [2, 4] (.seq (.join [34] (.leaf []) (.cond (.leaf []) (.leaf []))) (.block (.seq (.leaf []) (.seq (.leaf []) (.seq (.join [56] (.leaf []) (.cond (.leaf []) (.leaf []))) (.seq (.join [66] (.leaf []) (.cond (.leaf []) (.leaf []))) (.leaf []))))))))) (.seq (.leaf []) (.leaf [])))))))
theorem s165 {a0 : Value} {H : Heap} {R : Value → Heap → Prop} (h : c165 a0 H R) : CallsH Tryz.prog 168 #[a0] H R :=
  callsH_of_eq p165 (fn := Tryz.f168) (c := Tryz.f168.body.getD .skip) (args := [a0]) Tryz.func168 (by kernel_rfl) mixed (by kernel_rfl) (by kernel_rfl) (by kernel_rfl) h
def c167 (a0 a1 : Value) (H : Heap) (R : Value → Heap → Prop) : Prop :=
  CallsH Tryz.prog 184 #[a0] H fun _ H =>
  Loop [(.slice none 0 0)] H fun K1 vs2 H =>
  Fld 0 a0 H fun x16 =>
  CallsH Tryz.prog 185 #[x16] H fun x17 H =>
  Get (extractV x17 0) fun x18 =>
  Get (extractV x17 1) fun x19 =>
  Get (extractV x17 2) fun x20 =>
  Get (nilV2 .neq .nilIface x20) fun x22 =>
  Br x22 (
  R (.tuple #[(.slice none 0 0), x20]) H) (
  Join (fun K3 =>
  Get (arithV .geq .i64 a1 (.int .i64 0)) fun x25 =>
  Br x25 (
  Get (lenV (nth vs2 0)) fun x28 =>
  Get (lenV x18) fun x30 =>
  Get (arithV .add .i64 x28 x30) fun x31 =>
  Get (arithV .gtr .i64 x31 a1) fun x33 =>
  Get (pickV (.bool true) x33 (.bool false)) fun x34 =>
  K3 [x34] H) (
  Get (pickV (.bool false) undef (.bool false)) fun x34_1 =>
  K3 [x34_1] H)) fun vs4 H =>
  Br (nth vs4 0) (
  Get (load1V (.pointer (some ⟨22, 0, none⟩)) H) fun x35 =>
  R (.tuple #[(.slice none 0 0), x35]) H) (
  Join (fun K5 =>
  Get (nilV2 .eql (.slice none 0 0) (nth vs2 0)) fun x37 =>
  Br x37 (
  Get (unV .not x19) fun x40 =>
  Get (pickV (.bool true) x40 (.bool false)) fun x41 =>
  K5 [x41] H) (
  Get (pickV (.bool false) undef (.bool false)) fun x41_1 =>
  K5 [x41_1] H)) fun vs6 H =>
  Br (nth vs6 0) (
  R (.tuple #[x18, .nilIface]) H) (
  Append 5 1 1 #[(.int .u8 0)] (nth vs2 0) x18 H fun x45 H =>
  Get (unV .not x19) fun x47 =>
  Br x47 (
  R (.tuple #[x45, .nilIface]) H) (
  K1 [x45] H))))
def p167 : Plan := .seq (.leaf []) (.seq (.leaf []) (.seq (.leaf []) (.seq (.block (.loop [6] (.block (.seq (.leaf []) (.seq (.seq (.leaf []) (.cond (.seq (.leaf []) (.leaf [])) (.leaf []))) (.seq (.join [34] (.leaf []) (.cond (.seq (.leaf [0, 1, 2]) (.leaf [])) (.leaf []))) (.seq (.join [41] (.leaf []) (.cond (.seq (.leaf []) (.leaf [])) (.leaf []))) (.seq (.leaf []) (.seq (.leaf []) (.cond (.leaf []) (.leaf []))))))))))) (.seq (.leaf []) (.leaf [])))))
theorem s167 {a0 a1 : Value} {H : Heap} {R : Value → Heap → Prop} (h : c167 a0 a1 H R) : CallsH Tryz.prog 170 #[a0, a1] H R :=
  callsH_of_eq p167 (fn := Tryz.f170) (c := Tryz.f170.body.getD .skip) (args := [a0, a1]) Tryz.func170 (by kernel_rfl) mixed (by kernel_rfl) (by kernel_rfl) (by kernel_rfl) h
def c168 (a0 a1 a2 : Value) (H : Heap) (R : Value → Heap → Prop) : Prop :=
  Get (nilV2 .eql .nilFunc a2) fun x16 =>
  Br x16 (
  CallsH Tryz.prog 37 #[(.string ⟨#[109, 105, 115, 115, 105, 110, 103, 32, 118, 97, 108, 105, 100, 97, 116, 101, 70, 105, 114, 115, 116, 76, 105, 110, 101, 32, 102, 117, 110, 99]⟩)] H fun x17 H =>
  R (.tuple #[(.slice none 0 0), x17]) H) (
  CallsH Tryz.prog 170 #[a0, a1] H fun x21 H =>
  Get (extractV x21 0) fun x22 =>
  Get (extractV x21 1) fun x23 =>
  Get (nilV2 .neq .nilIface x23) fun x25 =>
  Br x25 (
  R (.tuple #[(.slice none 0 0), x23]) H) (
  Get (lenV x22) fun x28 =>
  Get (arithV .eql .i64 x28 (.int .i64 0)) fun x29 =>
  Br x29 (
  R (.tuple #[x22, .nilIface]) H) (
  CallV Tryz.prog a2 #[x22] H fun x33 H =>
  Get (nilV2 .neq .nilIface x33) fun x35 =>
  Br x35 (
  R (.tuple #[(.slice none 0 0), x33]) H) (
  Join (fun K1 =>
  Fld 0 a0 H fun x40 =>
  CallsH Tryz.prog 61 #[x40] H fun x41 H =>
  Get (arithV .gtr .i64 x41 (.int .i64 1)) fun x42 =>
  Br x42 (
  Fld 0 a0 H fun x47 =>
  CallsH Tryz.prog 169 #[x47, (.int .i64 2)] H fun x48 H =>
  Get (extractV x48 0) fun x49 =>
  Get (extractV x48 1) fun _ =>
  Join (fun K2 =>
  Get (lenV x49) fun x52 =>
  Get (arithV .gtr .i64 x52 (.int .i64 0)) fun x53 =>
  Br x53 (
  Get (elemAddrV 1 x49 (.int .i64 0)) fun x56 =>
  Get (load1V x56 H) fun x57 =>
  CallsH Tryz.prog 186 #[x57] H fun x58 H =>
  Br x58 (
  Get (pickV (.bool true) (.bool true) undef) fun x64 =>
  Get (pickV (.bool true) x64 (.bool false)) fun x65 =>
  Br x65 (
  Get (pickV (.bool true) (.bool true) undef) fun x82 =>
  K2 [x82] H) (
  Get (lenV x49) fun x68 =>
  Get (arithV .eql .i64 x68 (.int .i64 2)) fun x69 =>
  Br x69 (
  Get (elemAddrV 1 x49 (.int .i64 0)) fun x72 =>
  Get (load1V x72 H) fun x73 =>
  Get (arithV .eql .u8 x73 (.int .u8 13)) fun x74 =>
  Get (pickV (.bool true) x74 (.bool false)) fun x75 =>
  Br x75 (
  Get (elemAddrV 1 x49 (.int .i64 1)) fun x78 =>
  Get (load1V x78 H) fun x79 =>
  Get (arithV .eql .u8 x79 (.int .u8 10)) fun x80 =>
  Get (pickV (.bool true) x80 (.bool false)) fun x81 =>
  Get (pickV (.bool false) (.bool true) x81) fun x82_1 =>
  K2 [x82_1] H) (
  Get (pickV (.bool false) undef (.bool false)) fun x81_1 =>
  Get (pickV (.bool false) (.bool true) x81_1) fun x82_2 =>
  K2 [x82_2] H)) (
  Get (pickV (.bool false) undef (.bool false)) fun x75_1 =>
  Br x75_1 (
  Get (elemAddrV 1 x49 (.int .i64 1)) fun x78_1 =>
  Get (load1V x78_1 H) fun x79_1 =>
  Get (arithV .eql .u8 x79_1 (.int .u8 10)) fun x80_1 =>
  Get (pickV (.bool true) x80_1 (.bool false)) fun x81_2 =>
  Get (pickV (.bool false) (.bool true) x81_2) fun x82_3 =>
  K2 [x82_3] H) (
  Get (pickV (.bool false) undef (.bool false)) fun x81_3 =>
  Get (pickV (.bool false) (.bool true) x81_3) fun x82_4 =>
  K2 [x82_4] H)))) (
  Get (elemAddrV 1 x49 (.int .i64 0)) fun x61 =>
  Get (load1V x61 H) fun x62 =>
  Get (arithV .eql .u8 x62 (.int .u8 10)) fun x63 =>
  Get (pickV (.bool false) (.bool true) x63) fun x64_1 =>
  Get (pickV (.bool true) x64_1 (.bool false)) fun x65_1 =>
  Br x65_1 (
  Get (pickV (.bool true) (.bool true) undef) fun x82_5 =>
  K2 [x82_5] H) (
  Get (lenV x49) fun x68_1 =>
  Get (arithV .eql .i64 x68_1 (.int .i64 2)) fun x69_1 =>
  Br x69_1 (
  Get (elemAddrV 1 x49 (.int .i64 0)) fun x72_1 =>
  Get (load1V x72_1 H) fun x73_1 =>
  Get (arithV .eql .u8 x73_1 (.int .u8 13)) fun x74_1 =>
  Get (pickV (.bool true) x74_1 (.bool false)) fun x75_2 =>
  Br x75_2 (
  Get (elemAddrV 1 x49 (.int .i64 1)) fun x78_2 =>
  Get (load1V x78_2 H) fun x79_2 =>
  Get (arithV .eql .u8 x79_2 (.int .u8 10)) fun x80_2 =>
  Get (pickV (.bool true) x80_2 (.bool false)) fun x81_4 =>
  Get (pickV (.bool false) (.bool true) x81_4) fun x82_6 =>
  K2 [x82_6] H) (
  Get (pickV (.bool false) undef (.bool false)) fun x81_5 =>
  Get (pickV (.bool false) (.bool true) x81_5) fun x82_7 =>
  K2 [x82_7] H)) (
  Get (pickV (.bool false) undef (.bool false)) fun x75_3 =>
  Br x75_3 (
  Get (elemAddrV 1 x49 (.int .i64 1)) fun x78_3 =>
  Get (load1V x78_3 H) fun x79_3 =>
  Get (arithV .eql .u8 x79_3 (.int .u8 10)) fun x80_3 =>
  Get (pickV (.bool true) x80_3 (.bool false)) fun x81_6 =>
  Get (pickV (.bool false) (.bool true) x81_6) fun x82_8 =>
  K2 [x82_8] H) (
  Get (pickV (.bool false) undef (.bool false)) fun x81_7 =>
  Get (pickV (.bool false) (.bool true) x81_7) fun x82_9 =>
  K2 [x82_9] H))))) (
  Get (pickV (.bool false) undef (.bool false)) fun x65_2 =>
  Br x65_2 (
  Get (pickV (.bool true) (.bool true) undef) fun x82_10 =>
  K2 [x82_10] H) (
  Get (lenV x49) fun x68_2 =>
  Get (arithV .eql .i64 x68_2 (.int .i64 2)) fun x69_2 =>
  Br x69_2 (
  Get (elemAddrV 1 x49 (.int .i64 0)) fun x72_2 =>
  Get (load1V x72_2 H) fun x73_2 =>
  Get (arithV .eql .u8 x73_2 (.int .u8 13)) fun x74_2 =>
  Get (pickV (.bool true) x74_2 (.bool false)) fun x75_4 =>
  Br x75_4 (
  Get (elemAddrV 1 x49 (.int .i64 1)) fun x78_4 =>
  Get (load1V x78_4 H) fun x79_4 =>
  Get (arithV .eql .u8 x79_4 (.int .u8 10)) fun x80_4 =>
  Get (pickV (.bool true) x80_4 (.bool false)) fun x81_8 =>
  Get (pickV (.bool false) (.bool true) x81_8) fun x82_11 =>
  K2 [x82_11] H) (
  Get (pickV (.bool false) undef (.bool false)) fun x81_9 =>
  Get (pickV (.bool false) (.bool true) x81_9) fun x82_12 =>
  K2 [x82_12] H)) (
  Get (pickV (.bool false) undef (.bool false)) fun x75_5 =>
  Br x75_5 (
  Get (elemAddrV 1 x49 (.int .i64 1)) fun x78_5 =>
  Get (load1V x78_5 H) fun x79_5 =>
  Get (arithV .eql .u8 x79_5 (.int .u8 10)) fun x80_5 =>
  Get (pickV (.bool true) x80_5 (.bool false)) fun x81_10 =>
  Get (pickV (.bool false) (.bool true) x81_10) fun x82_13 =>
  K2 [x82_13] H) (
  Get (pickV (.bool false) undef (.bool false)) fun x81_11 =>
  Get (pickV (.bool false) (.bool true) x81_11) fun x82_14 =>
  K2 [x82_14] H))))) fun vs3 H =>
  Br (nth vs3 0) (
  CallsH Tryz.prog 187 #[x22] H fun x84 H =>
  R (.tuple #[x84, .nilIface]) H) (
  K1 [] H)) (
  K1 [] H)) fun _ H =>
  Get (nilV a0) fun x87 =>
  Get (fieldAddrV 2 x87) fun x88 =>
  Get (load1V x88 H) fun x89 =>
  Get (sliceV 1 x89 none (some (.int .i64 0)) none) fun x90 =>
  CallsH Tryz.prog 187 #[x22] H fun x92 H =>
  (load1V x88 H = some x89 ∧ True) ∧
  Append 5 1 1 #[(.int .u8 0)] x90 x92 H fun x93 H =>
  Get (nilV a0) fun x94 =>
  Get (fieldAddrV 2 x94) fun x95 =>
  Get (store1V x95 x93 H) fun H =>
  Join (fun K5 =>
  Get (arithV .lss .i64 a1 (.int .i64 0)) fun x97 =>
  Br x97 (
  K5 [(.int .i64 9223372036854775807)] H) (
  K5 [a1] H)) fun vs6 H =>
  Fld 2 a0 H fun x102 =>
  Get (lenV x102) fun x103 =>
  Get (arithV .sub .i64 (nth vs6 0) x103) fun x104 =>
  Loop [] H fun K7 _ H =>
  CallsH Tryz.prog 188 #[a0] H fun x106 H =>
  Get (arithV .gtr .i64 x106 (.int .i64 0)) fun x107 =>
  Br x107 (
  Fld 2 a0 H fun x112 =>
  Get (Instr.fill (fun j => some (j * 1, 1)) ((Array.range (1 * 1)).map ((#[(.int .u8 0)] : Array Value)[· % 1]!)) [(0, (.int .u8 32))]) fun cs => NewSl cs 5 1 H fun x113 H =>
  Append 5 1 1 #[(.int .u8 0)] x112 x113 H fun x114 H =>
  Get (nilV a0) fun x115 =>
  Get (fieldAddrV 2 x115) fun x116 =>
  Get (store1V x116 x114 H) fun H =>
  Fld 2 a0 H fun x120 =>
  Get (lenV x120) fun x121 =>
  Get (arithV .geq .i64 x121 x104) fun x123 =>
  Br x123 (
  Get (load1V (.pointer (some ⟨22, 0, none⟩)) H) fun x124 =>
  R (.tuple #[(.slice none 0 0), x124]) H) (
  Fld 2 a0 H fun x131 =>
  Get (lenV x131) fun x132 =>
  Get (arithV .sub .i64 x104 x132) fun x133 =>
  CallsH Tryz.prog 170 #[a0, x133] H fun x134 H =>
  Get (extractV x134 0) fun x135 =>
  Get (extractV x134 1) fun x136 =>
  Get (nilV2 .neq .nilIface x136) fun x138 =>
  Br x138 (
  R (.tuple #[(.slice none 0 0), x136]) H) (
  Get (nilV a0) fun x142 =>
  Get (fieldAddrV 2 x142) fun x143 =>
  Get (load1V x143 H) fun x144 =>
  CallsH Tryz.prog 187 #[x135] H fun x146 H =>
  (load1V x143 H = some x144 ∧ True) ∧
  Append 5 1 1 #[(.int .u8 0)] x144 x146 H fun x147 H =>
  Get (nilV a0) fun x148 =>
  Get (fieldAddrV 2 x148) fun x149 =>
  Get (store1V x149 x147 H) fun H =>
  K7 [] H))) (
  Fld 2 a0 H fun x153 =>
  R (.tuple #[x153, .nilIface]) H)))))
def p168 : Plan := .seq (.leaf []) (.seq (.seq (.leaf []) (.cond (.seq (.leaf []) (.leaf [])) (.leaf []))) (.seq (.leaf []) (.seq (.seq (.leaf []) (.cond (.seq (.leaf []) (.leaf [])) (.leaf []))) (.seq (.seq (.leaf []) (.cond (.seq (.leaf []) (.leaf [])) (.leaf []))) (.seq (.seq (.leaf []) (.seq (.leaf []) (.cond (.seq (.leaf []) (.leaf [])) (.leaf [])))) (.join [] (.seq (.leaf []) (.cond (.seq (.leaf []) (.join [82] (.leaf []) (.cond (.seq (.leaf []) (.leaf [])) (.leaf [])))) (.leaf []))) (.seq (.leaf [0, 1, 2, 3, 4, 5, 6, 7, 8, 9, 10, 11]) (.join [1] (.seq (.leaf []) (.cond (.leaf []) (.leaf []))) (.seq (.leaf []) (.seq (.block (.loop [] (.seq (.seq (.leaf []) (.cond (.leaf []) (.leaf []))) (.block (.seq (.leaf []) (.seq (.seq (.leaf []) (.cond (.seq (.leaf [0, 1, 2]) (.leaf [])) (.leaf []))) (.seq (.leaf []) (.seq (.seq (.leaf []) (.cond (.seq (.leaf []) (.leaf [])) (.leaf []))) (.leaf [0, 1, 2, 3, 4, 5, 6, 7, 8, 9, 10]))))))))) (.seq (.leaf []) (.leaf []))))))))))))
theorem s168 {a0 a1 a2 : Value} {H : Heap} {R : Value → Heap → Prop} (h : c168 a0 a1 a2 H R) : CallsH Tryz.prog 171 #[a0, a1, a2] H R :=
  callsH_of_eq p168 (fn := Tryz.f171) (c := Tryz.f171.body.getD .skip) (args := [a0, a1, a2]) Tryz.func171 (by kernel_rfl) mixed (by kernel_rfl) (by kernel_rfl) (by kernel_rfl) h
def c169 (a0 : Value) (H : Heap) (R : Value → Heap → Prop) : Prop :=
  CallsH Tryz.prog 59 #[a0, (.int .u8 58)] H fun x4 H =>
  Get (arithV .lss .i64 x4 (.int .i64 0)) fun x5 =>
  Br x5 (
  Get (some (Value.iface 261 (.string ⟨#[109, 97, 108, 102, 111, 114, 109, 101, 100, 32, 77, 73, 77, 69, 32, 104, 101, 97, 100, 101, 114, 58, 32, 109, 105, 115, 115, 105, 110, 103, 32, 99, 111, 108, 111, 110]⟩))) fun x6 =>
  R x6 H) (
  R .nilIface H)
def p169 : Plan := .seq (.leaf []) (.seq (.seq (.leaf []) (.cond (.seq (.leaf []) (.leaf [])) (.leaf []))) (.seq (.leaf []) (.leaf [])))
theorem s169 {a0 : Value} {H : Heap} {R : Value → Heap → Prop} (h : c169 a0 H R) : CallsH Tryz.prog 172 #[a0] H R :=
  callsH_of_eq p169 (fn := Tryz.f172) (c := Tryz.f172.body.getD .skip) (args := [a0]) Tryz.func172 (by kernel_rfl) mixed (by kernel_rfl) (by kernel_rfl) (by kernel_rfl) h
def c170 (a0 a1 : Value) (H : Heap) (R : Value → Heap → Prop) : Prop :=
  CallsH Tryz.prog 189 #[a0, a1] H fun x10 H =>
  Get (arithV .geq .i64 x10 (.int .i64 0)) fun x12 =>
  Br x12 (
  Get (sliceV 1 a0 none (some x10) none) fun x15 =>
  Get (lenV a1) fun x19 =>
  Get (arithV .add .i64 x10 x19) fun x20 =>
  Get (sliceV 1 a0 (some x20) none none) fun x21 =>
  R (.tuple #[x15, x21, (.bool true)]) H) (
  R (.tuple #[a0, (.slice none 0 0), (.bool false)]) H)
def p170 : Plan := .seq (.leaf []) (.seq (.seq (.leaf []) (.seq (.leaf []) (.cond (.seq (.leaf [0, 1, 2, 3, 4, 5, 6, 7, 8, 9, 10, 11]) (.leaf [])) (.leaf [])))) (.seq (.leaf []) (.leaf [])))
theorem s170 {a0 a1 : Value} {H : Heap} {R : Value → Heap → Prop} (h : c170 a0 a1 H R) : CallsH Tryz.prog 173 #[a0, a1] H R :=
  callsH_of_eq p170 (fn := Tryz.f173) (c := Tryz.f173.body.getD .skip) (args := [a0, a1]) Tryz.func173 (by kernel_rfl) mixed (by kernel_rfl) (by kernel_rfl) (by kernel_rfl) h
def c171 (a0 : Value) (H : Heap) (R : Value → Heap → Prop) : Prop :=
  Get (shiftV .shl .u64 (.int .u64 1) a0) fun x4 =>
  Get (arithV .andNot .u64 x4 (.int .u64 18446744069414584832)) fun x5 =>
  Get (arithV .sub .u8 a0 (.int .u8 64)) fun x7 =>
  Get (shiftV .shl .u64 (.int .u64 1) x7) fun x8 =>
  Get (arithV .andNot .u64 x8 (.int .u64 9223372036854775807)) fun x9 =>
  Get (arithV .or .u64 x5 x9) fun x10 =>
  Get (arithV .eql .u64 x10 (.int .u64 0)) fun x11 =>
  R x11 H
def p171 : Plan := .seq (.leaf []) (.seq (.leaf []) (.leaf []))
theorem s171 {a0 : Value} {H : Heap} {R : Value → Heap → Prop} (h : c171 a0 H R) : CallsH Tryz.prog 174 #[a0] H R :=
  callsH_of_eq p171 (fn := Tryz.f174) (c := Tryz.f174.body.getD .skip) (args := [a0]) Tryz.func174 (by kernel_rfl) mixed (by kernel_rfl) (by kernel_rfl) (by kernel_rfl) h
def c172 (a0 a1 : Value) (H : Heap) (R : Value → Heap → Prop) : Prop :=
  Get (lenV a0) fun x8 =>
  Get (arithV .eql .i64 x8 (.int .i64 0)) fun x9 =>
  Br x9 (
  R (.slice none 0 0) H) (
  Get (strV .eql a1 (.string ⟨#[]⟩)) fun x11 =>
  Br x11 (
  R a0 H) (
  Join (fun K1 =>
  Get (lenStrV a1) fun x14 =>
  Get (arithV .eql .i64 x14 (.int .i64 1)) fun x15 =>
  Br x15 (
  Get (strIndexV a1 (.int .i64 0)) fun x18 =>
  Get (arithV .lss .u8 x18 (.int .u8 128)) fun x19 =>
  Get (pickV (.bool true) x19 (.bool false)) fun x20 =>
  K1 [x20] H) (
  Get (pickV (.bool false) undef (.bool false)) fun x20_1 =>
  K1 [x20_1] H)) fun vs2 H =>
  Br (nth vs2 0) (
  Get (strIndexV a1 (.int .i64 0)) fun x23 =>
  CallsH Tryz.prog 190 #[a0, x23] H fun x24 H =>
  R x24 H) (
  CallsH Tryz.prog 191 #[a1] H fun x27 H =>
  Get (extractV x27 0) fun x28 =>
  Get (extractV x27 1) fun x29 =>
  New (.cells (Array.replicate 256 (.bool false)) 278 (0, 0)) H fun x5 H =>
  Get (storeNV 256 x5 x28 H) fun H =>
  Br x29 (
  CallsH Tryz.prog 192 #[a0, x5] H fun x32 H =>
  R x32 H) (
  CallsH Tryz.prog 193 #[a0, a1] H fun x35 H =>
  R x35 H))))
def p172 : Plan := .seq (.leaf []) (.seq (.seq (.leaf []) (.cond (.seq (.leaf []) (.leaf [])) (.leaf []))) (.seq (.seq (.leaf []) (.cond (.seq (.leaf []) (.leaf [])) (.leaf []))) (.seq (.join [20] (.leaf []) (.cond (.seq (.leaf []) (.leaf [])) (.leaf []))) (.seq (.seq (.leaf []) (.seq (.leaf []) (.cond (.seq (.leaf []) (.leaf [])) (.leaf [])))) (.seq (.leaf []) (.leaf []))))))
theorem s172 {a0 a1 : Value} {H : Heap} {R : Value → Heap → Prop} (h : c172 a0 a1 H R) : CallsH Tryz.prog 175 #[a0, a1] H R :=
  callsH_of_eq p172 (fn := Tryz.f175) (c := Tryz.f175.body.getD .skip) (args := [a0, a1]) Tryz.func175 (by kernel_rfl) mixed (by kernel_rfl) (by kernel_rfl) (by kernel_rfl) h
def c173 (a0 : Value) (H : Heap) (R : Value → Heap → Prop) : Prop :=
  Fld 1 a0 H fun x6 =>
  Get (nilV2 .eql (.pointer none) x6) fun x7 =>
  Br x7 (
  R (.tuple #[]) H) (
  MakeSlice 5 1 1 #[(.int .u8 0)] (.int .i64 128) (.int .i64 128) H fun x8 H =>
  Loop [] H fun K1 _ H =>
  Fld 1 a0 H fun x12 =>
  Get (nilV2 .neq (.pointer none) x12) fun x13 =>
  Br x13 (
  Fld 1 a0 H fun x17 =>
  CallsH Tryz.prog 196 #[x17, x8] H fun _ H =>
  K1 [] H) (
  R (.tuple #[]) H))
def p173 : Plan := .seq (.seq (.leaf []) (.cond (.leaf []) (.leaf []))) (.seq (.leaf []) (.block (.loop [] (.seq (.seq (.leaf []) (.cond (.leaf []) (.leaf []))) (.block (.leaf []))))))
theorem s173 {a0 : Value} {H : Heap} {R : Value → Heap → Prop} (h : c173 a0 H R) : CallsH Tryz.prog 184 #[a0] H R :=
  callsH_of_eq p173 (fn := Tryz.f184) (c := Tryz.f184.body.getD .skip) (args := [a0]) Tryz.func184 (by kernel_rfl) mixed (by kernel_rfl) (by kernel_rfl) (by kernel_rfl) h
def c174 (a0 : Value) (H : Heap) (R : Value → Heap → Prop) : Prop :=
  CallsH Tryz.prog 45 #[a0, (.int .u8 10)] H fun x8 H =>
  Get (extractV x8 0) fun x9 =>
  Get (extractV x8 1) fun x10 =>
  Get (load1V (.pointer (some ⟨1, 0, none⟩)) H) fun x12 =>
  ExecV Tryz.prog (do eqGuard .eql 43 (.tmp 11) (.tmp 12) x10 x12; binOp .eql 43 x10 x12) H fun x13 H =>
  Br x13 (
  Join (fun K1 =>
  Join (fun K2 =>
  Get (lenV x9) fun x15 =>
  Get (arithV .gtr .i64 x15 (.int .i64 0)) fun x16 =>
  Br x16 (
  Get (lenV x9) fun x20 =>
  Get (arithV .sub .i64 x20 (.int .i64 1)) fun x21 =>
  Get (elemAddrV 1 x9 x21) fun x22 =>
  Get (load1V x22 H) fun x23 =>
  Get (arithV .eql .u8 x23 (.int .u8 13)) fun x24 =>
  Get (pickV (.bool true) x24 (.bool false)) fun x25 =>
  K2 [x25] H) (
  Get (pickV (.bool false) undef (.bool false)) fun x25_1 =>
  K2 [x25_1] H)) fun vs3 H =>
  Br (nth vs3 0) (
  Join (fun K4 =>
  Fld 2 a0 H fun x29 =>
  Get (arithV .eql .i64 x29 (.int .i64 0)) fun x30 =>
  Br x30 (
  Get (some (Value.iface 9 (.string ⟨#[98, 117, 102, 105, 111, 58, 32, 116, 114, 105, 101, 100, 32, 116, 111, 32, 114, 101, 119, 105, 110, 100, 32, 112, 97, 115, 116, 32, 115, 116, 97, 114, 116, 32, 111, 102, 32, 98, 117, 102, 102, 101, 114]⟩))) fun _ =>
  False) (
  K4 [] H)) fun _ H =>
  Fld 2 a0 H fun x35 =>
  Get (arithV .sub .i64 x35 (.int .i64 1)) fun x36 =>
  Get (nilV a0) fun x37 =>
  Get (fieldAddrV 2 x37) fun x38 =>
  Get (store1V x38 x36 H) fun H =>
  Get (lenV x9) fun x41 =>
  Get (arithV .sub .i64 x41 (.int .i64 1)) fun x42 =>
  Get (sliceV 1 x9 none (some x42) none) fun x43 =>
  K1 [x43] H) (
  K1 [x9] H)) fun vs6 H =>
  R (.tuple #[(nth vs6 0), (.bool true), .nilIface]) H) (
  Get (lenV x9) fun x46 =>
  Get (arithV .eql .i64 x46 (.int .i64 0)) fun x47 =>
  Br x47 (
  Join (fun K7 =>
  Get (nilV2 .neq .nilIface x10) fun x49 =>
  Br x49 (
  K7 [(.slice none 0 0)] H) (
  K7 [x9] H)) fun vs8 H =>
  R (.tuple #[(nth vs8 0), (.bool false), x10]) H) (
  Join (fun K9 =>
  Get (lenV x9) fun x52 =>
  Get (arithV .sub .i64 x52 (.int .i64 1)) fun x53 =>
  Get (elemAddrV 1 x9 x53) fun x54 =>
  Get (load1V x54 H) fun x55 =>
  Get (arithV .eql .u8 x55 (.int .u8 10)) fun x56 =>
  Br x56 (
  Join (fun K10 =>
  Join (fun K11 =>
  Get (lenV x9) fun x58 =>
  Get (arithV .gtr .i64 x58 (.int .i64 1)) fun x59 =>
  Br x59 (
  Get (lenV x9) fun x63 =>
  Get (arithV .sub .i64 x63 (.int .i64 2)) fun x64 =>
  Get (elemAddrV 1 x9 x64) fun x65 =>
  Get (load1V x65 H) fun x66 =>
  Get (arithV .eql .u8 x66 (.int .u8 13)) fun x67 =>
  Get (pickV (.bool true) x67 (.bool false)) fun x68 =>
  K11 [x68] H) (
  Get (pickV (.bool false) undef (.bool false)) fun x68_1 =>
  K11 [x68_1] H)) fun vs12 H =>
  Br (nth vs12 0) (
  K10 [(.int .i64 2)] H) (
  K10 [(.int .i64 1)] H)) fun vs13 H =>
  Get (lenV x9) fun x71 =>
  Get (arithV .sub .i64 x71 (nth vs13 0)) fun x73 =>
  Get (sliceV 1 x9 none (some x73) none) fun x74 =>
  K9 [x74] H) (
  K9 [x9] H)) fun vs14 H =>
  R (.tuple #[(nth vs14 0), (.bool false), .nilIface]) H))
def p174 : Plan := .seq (.leaf []) (.seq (.leaf []) (.seq (.seq (.leaf []) (.cond (.join [2] (.join [25] (.leaf []) (.cond (.join [] (.seq (.leaf []) (.cond (.leaf []) (.leaf []))) (.seq (.leaf []) (.leaf []))) (.leaf []))) (.seq (.leaf []) (.leaf []))) (.leaf []))) (.seq (.seq (.leaf []) (.cond (.join [2] (.seq (.leaf []) (.cond (.leaf []) (.leaf []))) (.leaf [])) (.leaf []))) (.seq (.leaf []) (.join [2] (.seq (.leaf []) (.cond (.seq (.leaf []) (.join [5] (.join [68] (.leaf []) (.cond (.leaf []) (.leaf []))) (.leaf []))) (.leaf []))) (.leaf []))))))
theorem s174 {a0 : Value} {H : Heap} {R : Value → Heap → Prop} (h : c174 a0 H R) : CallsH Tryz.prog 185 #[a0] H R :=
  callsH_of_eq p174 (fn := Tryz.f185) (c := Tryz.f185.body.getD .skip) (args := [a0]) Tryz.func185 (by kernel_rfl) mixed (by kernel_rfl) (by kernel_rfl) (by kernel_rfl) h
def c175 (a0 : Value) (H : Heap) (R : Value → Heap → Prop) : Prop :=
  Get (arithV .or .u8 a0 (.int .u8 32)) fun x4 =>
  Join (fun K1 =>
  Get (arithV .leq .u8 (.int .u8 97) x4) fun x6 =>
  Br x6 (
  Get (arithV .leq .u8 x4 (.int .u8 122)) fun x9 =>
  Get (pickV (.bool true) x9 (.bool false)) fun x10 =>
  K1 [x10] H) (
  Get (pickV (.bool false) undef (.bool false)) fun x10_1 =>
  K1 [x10_1] H)) fun vs2 H =>
  R (nth vs2 0) H
def p175 : Plan := .seq (.leaf []) (.seq (.leaf []) (.join [2] (.leaf []) (.leaf [])))
theorem s175 {a0 : Value} {H : Heap} {R : Value → Heap → Prop} (h : c175 a0 H R) : CallsH Tryz.prog 186 #[a0] H R :=
  callsH_of_eq p175 (fn := Tryz.f186) (c := Tryz.f186.body.getD .skip) (args := [a0]) Tryz.func186 (by kernel_rfl) mixed (by kernel_rfl) (by kernel_rfl) (by kernel_rfl) h
def c176 (a0 : Value) (H : Heap) (R : Value → Heap → Prop) : Prop :=
  Loop [(.int .i64 0)] H fun K1 vs2 H =>
  Join (fun K3 =>
  Get (lenV a0) fun x7 =>
  Get (arithV .lss .i64 (nth vs2 0) x7) fun x8 =>
  Br x8 (
  Get (elemAddrV 1 a0 (nth vs2 0)) fun x12 =>
  Get (load1V x12 H) fun x13 =>
  Get (arithV .eql .u8 x13 (.int .u8 32)) fun x14 =>
  Br x14 (
  Get (pickV (.bool true) (.bool true) undef) fun x21 =>
  Get (pickV (.bool true) x21 (.bool false)) fun x22 =>
  K3 [x22] H) (
  Get (elemAddrV 1 a0 (nth vs2 0)) fun x18 =>
  Get (load1V x18 H) fun x19 =>
  Get (arithV .eql .u8 x19 (.int .u8 9)) fun x20 =>
  Get (pickV (.bool false) (.bool true) x20) fun x21_1 =>
  Get (pickV (.bool true) x21_1 (.bool false)) fun x22_1 =>
  K3 [x22_1] H)) (
  Get (pickV (.bool false) undef (.bool false)) fun x22_2 =>
  K3 [x22_2] H)) fun vs4 H =>
  Br (nth vs4 0) (
  Get (arithV .add .i64 (nth vs2 0) (.int .i64 1)) fun x24 =>
  K1 [x24] H) (
  Get (sliceV 1 a0 (some (nth vs2 0)) none none) fun x27 =>
  Get (lenV x27) fun x29 =>
  Get (arithV .sub .i64 x29 (.int .i64 1)) fun x30 =>
  Loop [x30] H fun K5 vs6 H =>
  Join (fun K7 =>
  Get (arithV .geq .i64 (nth vs6 0) (.int .i64 0)) fun x32 =>
  Br x32 (
  Get (elemAddrV 1 x27 (nth vs6 0)) fun x36 =>
  Get (load1V x36 H) fun x37 =>
  Get (arithV .eql .u8 x37 (.int .u8 32)) fun x38 =>
  Br x38 (
  Get (pickV (.bool true) (.bool true) undef) fun x45 =>
  Get (pickV (.bool true) x45 (.bool false)) fun x46 =>
  K7 [x46] H) (
  Get (elemAddrV 1 x27 (nth vs6 0)) fun x42 =>
  Get (load1V x42 H) fun x43 =>
  Get (arithV .eql .u8 x43 (.int .u8 9)) fun x44 =>
  Get (pickV (.bool false) (.bool true) x44) fun x45_1 =>
  Get (pickV (.bool true) x45_1 (.bool false)) fun x46_1 =>
  K7 [x46_1] H)) (
  Get (pickV (.bool false) undef (.bool false)) fun x46_2 =>
  K7 [x46_2] H)) fun vs8 H =>
  Br (nth vs8 0) (
  Get (arithV .sub .i64 (nth vs6 0) (.int .i64 1)) fun x48 =>
  K5 [x48] H) (
  Get (arithV .add .i64 (nth vs6 0) (.int .i64 1)) fun x51 =>
  Get (sliceV 1 x27 none (some x51) none) fun x52 =>
  R x52 H))
def p176 : Plan := .seq (.leaf []) (.seq (.leaf []) (.seq (.block (.loop [3] (.seq (.join [22] (.leaf []) (.cond (.leaf []) (.leaf []))) (.block (.leaf []))))) (.seq (.leaf []) (.seq (.leaf []) (.seq (.block (.loop [4] (.seq (.join [46] (.leaf []) (.cond (.leaf []) (.leaf []))) (.block (.leaf []))))) (.seq (.leaf []) (.leaf [])))))))
theorem s176 {a0 : Value} {H : Heap} {R : Value → Heap → Prop} (h : c176 a0 H R) : CallsH Tryz.prog 187 #[a0] H R :=
  callsH_of_eq p176 (fn := Tryz.f187) (c := Tryz.f187.body.getD .skip) (args := [a0]) Tryz.func187 (by kernel_rfl) mixed (by kernel_rfl) (by kernel_rfl) (by kernel_rfl) h
def c177 (a0 : Value) (H : Heap) (R : Value → Heap → Prop) : Prop :=
  Join (fun K1 =>
  Loop [(.int .i64 0)] H fun K2 vs3 H =>
  Fld 0 a0 H fun x10 =>
  CallsH Tryz.prog 197 #[x10] H fun x11 H =>
  Get (extractV x11 0) fun x12 =>
  Get (extractV x11 1) fun x13 =>
  Get (nilV2 .neq .nilIface x13) fun x15 =>
  Br x15 (
  K1 [(nth vs3 0)] H) (
  Join (fun K4 =>
  Get (arithV .neq .u8 x12 (.int .u8 32)) fun x17 =>
  Br x17 (
  Get (arithV .neq .u8 x12 (.int .u8 9)) fun x20 =>
  Get (pickV (.bool true) x20 (.bool false)) fun x21 =>
  K4 [x21] H) (
  Get (pickV (.bool false) undef (.bool false)) fun x21_1 =>
  K4 [x21_1] H)) fun vs5 H =>
  Br (nth vs5 0) (
  Fld 0 a0 H fun x25 =>
  CallsH Tryz.prog 198 #[x25] H fun _ H =>
  K1 [(nth vs3 0)] H) (
  Get (arithV .add .i64 (nth vs3 0) (.int .i64 1)) fun x28 =>
  K2 [x28] H))) fun vs6 H =>
  R (nth vs6 0) H
def p177 : Plan := .seq (.leaf []) (.seq (.leaf []) (.join [3] (.block (.loop [3] (.block (.seq (.leaf []) (.seq (.seq (.leaf []) (.cond (.leaf []) (.leaf []))) (.seq (.join [21] (.leaf []) (.cond (.seq (.leaf []) (.leaf [])) (.leaf []))) (.leaf []))))))) (.seq (.leaf []) (.leaf []))))
theorem s177 {a0 : Value} {H : Heap} {R : Value → Heap → Prop} (h : c177 a0 H R) : CallsH Tryz.prog 188 #[a0] H R :=
  callsH_of_eq p177 (fn := Tryz.f188) (c := Tryz.f188.body.getD .skip) (args := [a0]) Tryz.func188 (by kernel_rfl) mixed (by kernel_rfl) (by kernel_rfl) (by kernel_rfl) h
def c178 (a0 a1 : Value) (H : Heap) (R : Value → Heap → Prop) : Prop :=
  Loop [(.int .i64 0)] H fun K1 vs2 H =>
  Get (lenV a1) fun x8 =>
  Get (arithV .add .i64 (nth vs2 0) x8) fun x9 =>
  Get (lenV a0) fun x11 =>
  Get (arithV .leq .i64 x9 x11) fun x12 =>
  Br x12 (
  Get (lenV a1) fun x19 =>
  Get (arithV .add .i64 (nth vs2 0) x19) fun x20 =>
  Get (sliceV 1 a0 (some (nth vs2 0)) (some x20) none) fun x21 =>
  Get (bytesV x21 H) fun x22 =>
  Get (bytesV a1 H) fun x24 =>
  Get (strV .eql x22 x24) fun x25 =>
  Br x25 (
  R (nth vs2 0) H) (
  Get (arithV .add .i64 (nth vs2 0) (.int .i64 1)) fun x14 =>
  K1 [x14] H)) (
  R (.int .i64 (-1)) H)
def p178 : Plan := .seq (.leaf []) (.seq (.seq (.leaf []) (.block (.loop [5] (.seq (.seq (.leaf []) (.cond (.leaf []) (.leaf []))) (.seq (.block (.seq (.leaf [0, 1, 2, 3, 4, 5, 6, 7, 8, 9, 10]) (.cond (.seq (.leaf []) (.leaf [])) (.leaf [])))) (.leaf [])))))) (.seq (.leaf []) (.leaf [])))
theorem s178 {a0 a1 : Value} {H : Heap} {R : Value → Heap → Prop} (h : c178 a0 a1 H R) : CallsH Tryz.prog 189 #[a0, a1] H R :=
  callsH_of_eq p178 (fn := Tryz.f189) (c := Tryz.f189.body.getD .skip) (args := [a0, a1]) Tryz.func189 (by kernel_rfl) mixed (by kernel_rfl) (by kernel_rfl) (by kernel_rfl) h
def c184 (a0 : Value) (H : Heap) (R : Value → Heap → Prop) : Prop :=
  Get (nilV a0) fun x6 =>
  Get (fieldAddrV 6 x6) fun x7 =>
  Get (store1V x7 (.int .i64 (-1)) H) fun H =>
  Loop [] H fun K1 _ H =>
  Fld 2 a0 H fun x11 =>
  Fld 3 a0 H fun x15 =>
  Get (arithV .eql .i64 x11 x15) fun x16 =>
  Br x16 (
  Fld 4 a0 H fun x20 =>
  Get (nilV2 .neq .nilIface x20) fun x21 =>
  Br x21 (
  CallsH Tryz.prog 60 #[a0] H fun x23 H =>
  R (.tuple #[(.int .u8 0), x23]) H) (
  CallsH Tryz.prog 62 #[a0] H fun _ H =>
  K1 [] H)) (
  Fld 0 a0 H fun x29 =>
  Fld 2 a0 H fun x33 =>
  Get (elemAddrV 1 x29 x33) fun x34 =>
  Get (load1V x34 H) fun x35 =>
  Fld 2 a0 H fun x39 =>
  Get (arithV .add .i64 x39 (.int .i64 1)) fun x40 =>
  Get (nilV a0) fun x41 =>
  Get (fieldAddrV 2 x41) fun x42 =>
  Get (store1V x42 x40 H) fun H =>
  Get (intConvV .i64 x35) fun x45 =>
  Get (nilV a0) fun x46 =>
  Get (fieldAddrV 5 x46) fun x47 =>
  Get (store1V x47 x45 H) fun H =>
  R (.tuple #[x35, .nilIface]) H)
def p184 : Plan := .seq (.leaf []) (.seq (.leaf []) (.seq (.block (.loop [] (.seq (.seq (.leaf [0, 1, 2, 3, 4, 5, 6, 7, 8]) (.cond (.leaf []) (.leaf []))) (.block (.seq (.seq (.leaf []) (.cond (.seq (.leaf []) (.leaf [])) (.leaf []))) (.leaf [])))))) (.seq (.leaf [0, 1, 2, 3, 4, 5, 6, 7, 8, 9, 10]) (.seq (.leaf []) (.seq (.leaf []) (.seq (.leaf []) (.leaf [])))))))
theorem s184 {a0 : Value} {H : Heap} {R : Value → Heap → Prop} (h : c184 a0 H R) : CallsH Tryz.prog 197 #[a0] H R :=
  callsH_of_eq p184 (fn := Tryz.f197) (c := Tryz.f197.body.getD .skip) (args := [a0]) Tryz.func197 (by kernel_rfl) mixed (by kernel_rfl) (by kernel_rfl) (by kernel_rfl) h
def c185 (a0 : Value) (H : Heap) (R : Value → Heap → Prop) : Prop :=
  Join (fun K1 =>
  Fld 5 a0 H fun x6 =>
  Get (arithV .lss .i64 x6 (.int .i64 0)) fun x7 =>
  Br x7 (
  Get (pickV (.bool true) (.bool true) undef) fun x21 =>
  K1 [x21] H) (
  Fld 2 a0 H fun x12 =>
  Get (arithV .eql .i64 x12 (.int .i64 0)) fun x13 =>
  Br x13 (
  Fld 3 a0 H fun x18 =>
  Get (arithV .gtr .i64 x18 (.int .i64 0)) fun x19 =>
  Get (pickV (.bool true) x19 (.bool false)) fun x20 =>
  Get (pickV (.bool false) (.bool true) x20) fun x21_1 =>
  K1 [x21_1] H) (
  Get (pickV (.bool false) undef (.bool false)) fun x20_1 =>
  Get (pickV (.bool false) (.bool true) x20_1) fun x21_2 =>
  K1 [x21_2] H))) fun vs2 H =>
  Br (nth vs2 0) (
  Get (load1V (.pointer (some ⟨28, 0, none⟩)) H) fun x22 =>
  R x22 H) (
  Join (fun K3 =>
  Fld 2 a0 H fun x26 =>
  Get (arithV .gtr .i64 x26 (.int .i64 0)) fun x27 =>
  Br x27 (
  Fld 2 a0 H fun x31 =>
  Get (arithV .sub .i64 x31 (.int .i64 1)) fun x32 =>
  Get (nilV a0) fun x33 =>
  Get (fieldAddrV 2 x33) fun x34 =>
  Get (store1V x34 x32 H) fun H =>
  K3 [] H) (
  Get (nilV a0) fun x36 =>
  Get (fieldAddrV 3 x36) fun x37 =>
  Get (store1V x37 (.int .i64 1) H) fun H =>
  K3 [] H)) fun _ H =>
  Fld 0 a0 H fun x41 =>
  Fld 2 a0 H fun x45 =>
  Fld 5 a0 H fun x49 =>
  Get (intConvV .u8 x49) fun x50 =>
  Get (elemAddrV 1 x41 x45) fun x51 =>
  Get (store1V x51 x50 H) fun H =>
  Get (nilV a0) fun x53 =>
  Get (fieldAddrV 5 x53) fun x54 =>
  Get (store1V x54 (.int .i64 (-1)) H) fun H =>
  Get (nilV a0) fun x56 =>
  Get (fieldAddrV 6 x56) fun x57 =>
  Get (store1V x57 (.int .i64 (-1)) H) fun H =>
  R .nilIface H)
def p185 : Plan := .seq (.leaf []) (.seq (.join [21] (.leaf []) (.cond (.seq (.leaf []) (.leaf [])) (.leaf []))) (.join [] (.seq (.leaf []) (.cond (.leaf []) (.leaf []))) (.seq (.leaf [0, 1, 2, 3, 4, 5, 6, 7, 8, 9, 10, 11, 12, 13, 14]) (.seq (.leaf []) (.seq (.leaf []) (.seq (.leaf []) (.leaf [])))))))
theorem s185 {a0 : Value} {H : Heap} {R : Value → Heap → Prop} (h : c185 a0 H R) : CallsH Tryz.prog 198 #[a0] H R :=
  callsH_of_eq p185 (fn := Tryz.f198) (c := Tryz.f198.body.getD .skip) (args := [a0]) Tryz.func198 (by kernel_rfl) mixed (by kernel_rfl) (by kernel_rfl) (by kernel_rfl) h
def c120 (a0 : Value) (H : Heap) (R : Value → Heap → Prop) : Prop :=
  Get (lenV a0) fun x11 =>
  Get (arithV .eql .i64 x11 (.int .i64 0)) fun x12 =>
  Br x12 (
  R (.tuple #[(.string ⟨#[]⟩), (.bool false)]) H) (
  Get (lenV a0) fun x14 =>
  Loop [(.bool false), (.int .i64 0)] H fun K1 vs2 H =>
  Get (arithV .lss .i64 (nth vs2 1) x14) fun x16 =>
  Br x16 (
  Join (fun K3 =>
  Get (elemAddrV 1 a0 (nth vs2 1)) fun x17 =>
  Get (load1V x17 H) fun x18 =>
  CallsH Tryz.prog 83 #[x18] H fun x20 H =>
  Br x20 (
  K3 [(nth vs2 0)] H) (
  Get (arithV .eql .u8 x18 (.int .u8 32)) fun x22 =>
  Br x22 (
  K3 [(.bool true)] H) (
  Get (bytesV a0 H) fun x24 =>
  R (.tuple #[x24, (.bool false)]) H))) fun vs4 H =>
  Get (arithV .add .i64 (nth vs2 1) (.int .i64 1)) fun x25 =>
  K1 [(nth vs4 0), x25] H) (
  Br (nth vs2 0) (
  Get (bytesV a0 H) fun x28 =>
  R (.tuple #[x28, (.bool true)]) H) (
  Get (lenV a0) fun x30 =>
  Loop [(.bool true), (.int .i64 0)] H fun K5 vs6 H =>
  Get (arithV .lss .i64 (nth vs6 1) x30) fun x32 =>
  Br x32 (
  Get (elemAddrV 1 a0 (nth vs6 1)) fun x34 =>
  Get (load1V x34 H) fun x35 =>
  Join (fun K7 =>
  Join (fun K8 =>
  Br (nth vs6 0) (
  Get (arithV .leq .u8 (.int .u8 97) x35) fun x39 =>
  Get (pickV (.bool true) x39 (.bool false)) fun x40 =>
  Br x40 (
  Get (arithV .leq .u8 x35 (.int .u8 122)) fun x43 =>
  Get (pickV (.bool true) x43 (.bool false)) fun x44 =>
  K8 [x44] H) (
  Get (pickV (.bool false) undef (.bool false)) fun x44_1 =>
  K8 [x44_1] H)) (
  Get (pickV (.bool false) undef (.bool false)) fun x40_1 =>
  Br x40_1 (
  Get (arithV .leq .u8 x35 (.int .u8 122)) fun x43_1 =>
  Get (pickV (.bool true) x43_1 (.bool false)) fun x44_2 =>
  K8 [x44_2] H) (
  Get (pickV (.bool false) undef (.bool false)) fun x44_3 =>
  K8 [x44_3] H))) fun vs9 H =>
  Br (nth vs9 0) (
  Get (arithV .sub .u8 x35 (.int .u8 32)) fun x46 =>
  K7 [x46] H) (
  Join (fun K10 =>
  Get (unV .not (nth vs6 0)) fun x48 =>
  Br x48 (
  Get (arithV .leq .u8 (.int .u8 65) x35) fun x51 =>
  Get (pickV (.bool true) x51 (.bool false)) fun x52 =>
  Br x52 (
  Get (arithV .leq .u8 x35 (.int .u8 90)) fun x55 =>
  Get (pickV (.bool true) x55 (.bool false)) fun x56 =>
  K10 [x56] H) (
  Get (pickV (.bool false) undef (.bool false)) fun x56_1 =>
  K10 [x56_1] H)) (
  Get (pickV (.bool false) undef (.bool false)) fun x52_1 =>
  Br x52_1 (
  Get (arithV .leq .u8 x35 (.int .u8 90)) fun x55_1 =>
  Get (pickV (.bool true) x55_1 (.bool false)) fun x56_2 =>
  K10 [x56_2] H) (
  Get (pickV (.bool false) undef (.bool false)) fun x56_3 =>
  K10 [x56_3] H))) fun vs11 H =>
  Br (nth vs11 0) (
  Get (arithV .add .u8 x35 (.int .u8 32)) fun x58 =>
  K7 [x58] H) (
  K7 [x35] H))) fun vs12 H =>
  Get (elemAddrV 1 a0 (nth vs6 1)) fun x62 =>
  Get (store1V x62 (nth vs12 0) H) fun H =>
  Get (arithV .eql .u8 (nth vs12 0) (.int .u8 45)) fun x64 =>
  Get (arithV .add .i64 (nth vs6 1) (.int .i64 1)) fun x65 =>
  K5 [x64, x65] H) (
  Get (bytesV a0 H) fun x67 =>
  R (.tuple #[x67, (.bool true)]) H))))
def p120 : Plan := .seq (.leaf []) (.seq (.seq (.leaf []) (.cond (.seq (.leaf []) (.leaf [])) (.leaf []))) (.seq (.leaf []) (.seq (.seq (.leaf []) (.block (.loop [4, 15] (.seq (.leaf []) (.seq (.cond (.leaf []) (.leaf [])) (.join [4] (.block (.seq (.leaf []) (.seq (.seq (.leaf []) (.cond (.leaf []) (.leaf []))) (.seq (.seq (.leaf []) (.cond (.seq (.leaf []) (.leaf [])) (.leaf []))) (.seq (.leaf []) (.leaf [])))))) (.leaf []))))))) (.seq (.seq (.leaf []) (.cond (.seq (.leaf []) (.leaf [])) (.leaf []))) (.seq (.leaf []) (.seq (.seq (.leaf []) (.block (.loop [7, 31] (.seq (.leaf []) (.seq (.cond (.leaf []) (.leaf [])) (.seq (.block (.seq (.leaf []) (.join [9] (.join [44] (.leaf []) (.cond (.leaf []) (.join [56] (.leaf []) (.cond (.leaf []) (.leaf []))))) (.seq (.leaf []) (.leaf []))))) (.leaf []))))))) (.seq (.leaf []) (.leaf []))))))))
theorem s120 {a0 : Value} {H : Heap} {R : Value → Heap → Prop} (h : c120 a0 H R) : CallsH Tryz.prog 84 #[a0] H R :=
  callsH_of_eq p120 (fn := Tryz.f84) (c := Tryz.f84.body.getD .skip) (args := [a0]) Tryz.func84 (by kernel_rfl) mixed (by kernel_rfl) (by kernel_rfl) (by kernel_rfl) h
def c119 (a0 : Value) (H : Heap) (R : Value → Heap → Prop) : Prop :=
  Get (shiftV .shl .u64 (.int .u64 1) a0) fun x4 =>
  Get (arithV .and .u64 x4 (.int .u64 288068722172624896)) fun x5 =>
  Get (arithV .sub .u8 a0 (.int .u8 64)) fun x7 =>
  Get (shiftV .shl .u64 (.int .u64 1) x7) fun x8 =>
  Get (arithV .and .u64 x8 (.int .u64 6341068274398134270)) fun x9 =>
  Get (arithV .or .u64 x5 x9) fun x10 =>
  Get (arithV .neq .u64 x10 (.int .u64 0)) fun x11 =>
  R x11 H
def p119 : Plan := .seq (.leaf []) (.seq (.leaf []) (.leaf []))
theorem s119 {a0 : Value} {H : Heap} {R : Value → Heap → Prop} (h : c119 a0 H R) : CallsH Tryz.prog 83 #[a0] H R :=
  callsH_of_eq p119 (fn := Tryz.f83) (c := Tryz.f83.body.getD .skip) (args := [a0]) Tryz.func83 (by kernel_rfl) mixed (by kernel_rfl) (by kernel_rfl) (by kernel_rfl) h
end Go.Cps
