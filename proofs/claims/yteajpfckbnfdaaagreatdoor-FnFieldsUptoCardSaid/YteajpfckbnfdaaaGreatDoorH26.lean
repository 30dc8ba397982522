/-
  A part of the proof: What the bodies of some functions of the program come to, at heap level, each proved of the program itself. ParseMediaType of "form-data" with parameters. FormName and FileName of a part whose disposition is that of a form's field.
  Conditions: each contract's own.
-/
import Derived.Test.YteajpfckbnfdaaaGreatDoorH4
import Derived.Test.YteajpfckbnfdaaaGreatDoorH23
import Derived.Test.YteajpfckbnfdaaaGreatDoorH25
set_option linter.all false
namespace Go.Cps
open Go Go.Proofs
set_option maxRecDepth 100000
def c1050 (a0 : Value) (H : Heap) (R : Value → Heap → Prop) : Prop :=
  CallsH Tryz.prog 68 #[a0, (.string ⟨#[59]⟩)] H fun x40 H =>
  Get (extractV x40 0) fun x41 =>
  Get (extractV x40 1) fun _ =>
  Get (extractV x40 2) fun _ =>
  CallsH Tryz.prog 70 #[x41] H fun x45 H =>
  CallsH Tryz.prog 69 #[x45] H fun x46 H =>
  CallsH Tryz.prog 71 #[x46] H fun x48 H =>
  Get (nilV2 .neq .nilIface x48) fun x50 =>
  Br x50 (
  R (.tuple #[(.string ⟨#[]⟩), (.map none), x48]) H) (
  NewMap H fun x52 H =>
  Get (lenStrV x41) fun x55 =>
  Get (strSliceV a0 (some x55) none) fun x56 =>
  Join (fun K1 =>
  Loop [x56, x46, x52, x48, (.map none)] H fun K2 vs3 H =>
  Get (lenStrV (nth vs3 0)) fun x58 =>
  Get (arithV .gtr .i64 x58 (.int .i64 0)) fun x59 =>
  Br x59 (
  CallsH Tryz.prog 72 #[(nth vs3 0), (.func (.func 73) #[] #[])] H fun x61 H =>
  Get (lenStrV x61) fun x63 =>
  Get (arithV .eql .i64 x63 (.int .i64 0)) fun x64 =>
  Br x64 (
  K1 [(nth vs3 1), (nth vs3 2), (nth vs3 3), (nth vs3 4)] H) (
  CallsH Tryz.prog 74 #[x61] H fun x67 H =>
  Get (extractV x67 0) fun x68 =>
  Get (extractV x67 1) fun x69 =>
  Get (extractV x67 2) fun x70 =>
  Get (strV .eql x68 (.string ⟨#[]⟩)) fun x72 =>
  Br x72 (
  CallsH Tryz.prog 69 #[x70] H fun x74 H =>
  Get (strV .eql x74 (.string ⟨#[59]⟩)) fun x75 =>
  Br x75 (
  K1 [(nth vs3 1), (nth vs3 2), (nth vs3 3), (nth vs3 4)] H) (
  Get (load1V (.pointer (some ⟨2, 0, none⟩)) H) fun x77 =>
  R (.tuple #[(nth vs3 1), (.map none), x77]) H)) (
  Join (fun K4 =>
  CallsH Tryz.prog 68 #[x68, (.string ⟨#[42]⟩)] H fun x81 H =>
  Get (extractV x81 0) fun x82 =>
  Get (extractV x81 1) fun _ =>
  Get (extractV x81 2) fun x84 =>
  Br x84 (
  Join (fun K5 =>
  Get (nilV2 .eql (.map none) (nth vs3 4)) fun x87 =>
  Br x87 (
  NewMap H fun x88 H =>
  K5 [x88] H) (
  K5 [(nth vs3 4)] H)) fun vs6 H =>
  ExecV Tryz.prog (Instr.lookup 135 (nth vs6 0) x82 true) H fun x92 H =>
  Get (extractV x92 0) fun x93 =>
  Get (extractV x92 1) fun x94 =>
  Get (unV .not x94) fun x96 =>
  Br x96 (
  NewMap H fun x99 H =>
  ExecV Tryz.prog (do Instr.mapUpdate 135 (nth vs6 0) x82 x99; pure undef) H fun u H =>
  ExecV Tryz.prog (Instr.lookup 135 (nth vs6 0) x82 false) H fun x102 H =>
  K4 [(nth vs6 0), x102] H) (
  K4 [(nth vs6 0), x93] H)) (
  K4 [(nth vs3 4), (nth vs3 2)] H)) fun vs7 H =>
  ExecV Tryz.prog (Instr.lookup 83 (nth vs7 1) x68 true) H fun x106 H =>
  Get (extractV x106 0) fun x107 =>
  Get (extractV x106 1) fun x108 =>
  Join (fun K8 =>
  Br x108 (
  Get (strV .neq x107 x69) fun x113 =>
  Get (pickV (.bool true) x113 (.bool false)) fun x114 =>
  K8 [x114] H) (
  Get (pickV (.bool false) undef (.bool false)) fun x114_1 =>
  K8 [x114_1] H)) fun vs9 H =>
  Br (nth vs9 0) (
  Get (load1V (.pointer (some ⟨3, 0, none⟩)) H) fun x115 =>
  R (.tuple #[(.string ⟨#[]⟩), (.map none), x115]) H) (
  ExecV Tryz.prog (do Instr.mapUpdate 83 (nth vs7 1) x68 x69; pure undef) H fun u H =>
  K2 [x70, (nth vs3 1), (nth vs3 2), (nth vs3 3), (nth vs7 0)] H)))) (
  K1 [(nth vs3 1), (nth vs3 2), (nth vs3 3), (nth vs3 4)] H)) fun vs10 H =>
  New (.cells #[(.pointer none), (.slice none 0 0)] 144 (0, 0)) H fun x18 H =>
  ExecV Tryz.prog (Instr.range 135 (nth vs10 3)) H fun x121 H =>
  Loop [] H fun K11 _ H =>
  ExecV Tryz.prog (Instr.next x121 false 0) H fun x122 H =>
  Get (extractV x122 0) fun x123 =>
  Br x123 (
  ExecV Tryz.prog (Instr.entry x121) H fun x124 H =>
  Get (extractV x124 0) fun x125 =>
  Get (extractV x124 1) fun x126 =>
  Get (strV .add x125 (.string ⟨#[42]⟩)) fun x128 =>
  ExecV Tryz.prog (Instr.lookup 83 x126 x128 true) H fun x132 H =>
  Get (extractV x132 0) fun x133 =>
  Get (extractV x132 1) fun x134 =>
  Br x134 (
  Join (fun K13 =>
  CallsH Tryz.prog 75 #[x133] H fun x138 H =>
  Get (extractV x138 0) fun x139 =>
  Get (extractV x138 1) fun x140 =>
  Br x140 (
  ExecV Tryz.prog (do Instr.mapUpdate 83 (nth vs10 1) x125 x139; pure undef) H fun u H =>
  K13 [] H) (
  K13 [] H)) fun _ H =>
  K11 [] H) (
  CallsH Tryz.prog 76 #[x18] H fun _ H =>
  Loop [(.bool false), (.int .i64 0)] H fun K15 vs16 H =>
  Join (fun K17 =>
  Get (strV .add x125 (.string ⟨#[42]⟩)) fun x149 =>
  CallsH Tryz.prog 77 #[(nth vs16 1)] H fun x151 H =>
  Get (strV .add x149 x151) fun x152 =>
  ExecV Tryz.prog (Instr.lookup 83 x126 x152 true) H fun x156 H =>
  Get (extractV x156 0) fun x157 =>
  Get (extractV x156 1) fun x158 =>
  Br x158 (
  CallsH Tryz.prog 78 #[x18, x157] H fun _ H =>
  K17 [(.bool true)] H) (
  Get (strV .add x152 (.string ⟨#[42]⟩)) fun x163 =>
  ExecV Tryz.prog (Instr.lookup 83 x126 x163 true) H fun x167 H =>
  Get (extractV x167 0) fun x168 =>
  Get (extractV x167 1) fun x169 =>
  Get (unV .not x169) fun x171 =>
  Br x171 (
  Br (nth vs16 0) (
  CallsH Tryz.prog 80 #[x18] H fun x192 H =>
  ExecV Tryz.prog (do Instr.mapUpdate 83 (nth vs10 1) x125 x192; pure undef) H fun u H =>
  K11 [] H) (
  K11 [] H)) (
  Get (arithV .eql .i64 (nth vs16 1) (.int .i64 0)) fun x173 =>
  Br x173 (
  CallsH Tryz.prog 75 #[x168] H fun x176 H =>
  Get (extractV x176 0) fun x177 =>
  Get (extractV x176 1) fun x178 =>
  Br x178 (
  CallsH Tryz.prog 78 #[x18, x177] H fun _ H =>
  K17 [(.bool true)] H) (
  K17 [(.bool true)] H)) (
  CallsH Tryz.prog 79 #[x168] H fun x184 H =>
  Get (extractV x184 0) fun x185 =>
  Get (extractV x184 1) fun _ =>
  CallsH Tryz.prog 78 #[x18, x185] H fun _ H =>
  K17 [(.bool true)] H)))) fun vs18 H =>
  Get (arithV .add .i64 (nth vs16 1) (.int .i64 1)) fun x147 =>
  K15 [(nth vs18 0), x147] H)) (
  R (.tuple #[(nth vs10 0), (nth vs10 1), (nth vs10 2)]) H))
def p1050 : Plan := .seq (.leaf []) (.seq (.leaf []) (.seq (.leaf []) (.seq (.leaf []) (.seq (.seq (.leaf []) (.cond (.seq (.leaf []) (.leaf [])) (.leaf []))) (.seq (.leaf []) (.seq (.leaf []) (.seq (.leaf []) (.join [2, 3, 4, 8] (.block (.loop [0, 2, 3, 4, 8] (.seq (.seq (.leaf []) (.cond (.leaf []) (.leaf []))) (.block (.seq (.leaf []) (.seq (.seq (.leaf []) (.cond (.leaf []) (.leaf []))) (.seq (.leaf []) (.seq (.seq (.leaf []) (.cond (.seq (.seq (.leaf []) (.cond (.leaf []) (.leaf []))) (.seq (.leaf [0, 1, 2, 3, 4]) (.leaf []))) (.leaf []))) (.seq (.leaf []) (.join [8, 12] (.seq (.leaf []) (.seq (.leaf []) (.cond (.join [8] (.seq (.leaf []) (.cond (.leaf []) (.leaf []))) (.seq (.leaf []) (.seq (.leaf []) (.cond (.seq (.leaf []) (.leaf [])) (.leaf []))))) (.leaf [])))) (.seq (.seq (.leaf []) (.join [114] (.leaf []) (.cond (.seq (.leaf [0, 1, 2, 3]) (.leaf [])) (.leaf [])))) (.seq (.leaf []) (.leaf []))))))))))))) (.seq (.leaf []) (.seq (.seq (.leaf []) (.block (.loop [] (.seq (.leaf []) (.seq (.cond (.leaf []) (.leaf [])) (.block (.seq (.leaf []) (.seq (.leaf []) (.seq (.seq (.leaf []) (.seq (.leaf []) (.cond (.join [] (.seq (.leaf []) (.seq (.leaf []) (.cond (.leaf []) (.leaf [])))) (.leaf [])) (.leaf [])))) (.seq (.leaf []) (.seq (.leaf []) (.seq (.seq (.leaf []) (.block (.loop [26, 27] (.join [26] (.block (.seq (.leaf []) (.seq (.seq (.leaf []) (.seq (.leaf []) (.cond (.seq (.leaf []) (.seq (.leaf []) (.leaf []))) (.leaf [])))) (.seq (.leaf []) (.seq (.leaf []) (.seq (.seq (.leaf []) (.cond (.leaf []) (.leaf []))) (.seq (.leaf []) (.seq (.leaf []) (.cond (.seq (.leaf []) (.seq (.leaf []) (.cond (.leaf []) (.leaf [])))) (.seq (.leaf []) (.leaf []))))))))))) (.leaf []))))) (.seq (.leaf []) (.cond (.leaf []) (.leaf []))))))))))))))) (.leaf [])))))))))))
theorem s1050 {a0 : Value} {H : Heap} {R : Value → Heap → Prop} (h : c1050 a0 H R) : CallsH Tryz.prog 50 #[a0] H R :=
  callsH_of_eq p1050 (fn := Tryz.f50) (c := Tryz.f50.body.getD .skip) (args := [a0]) Tryz.func50 (by kernel_rfl) mixed (by kernel_rfl) (by kernel_rfl) (by kernel_rfl) h
def c214 (a0 : Value) (H : Heap) (R : Value → Heap → Prop) : Prop :=
  Fld 0 a0 H fun x7 =>
  CallsH Tryz.prog 49 #[x7, (.string ⟨#[67, 111, 110, 116, 101, 110, 116, 45, 68, 105, 115, 112, 111, 115, 105, 116, 105, 111, 110]⟩)] H fun x8 H =>
  CallsH Tryz.prog 50 #[x8] H fun x13 H =>
  Get (extractV x13 0) fun x14 =>
  Get (extractV x13 1) fun x15 =>
  Get (extractV x13 2) fun x16 =>
  Get (nilV a0) fun x17 =>
  Get (fieldAddrV 2 x17) fun x18 =>
  Get (store1V x18 x14 H) fun H =>
  Get (nilV a0) fun x19 =>
  Get (fieldAddrV 3 x19) fun x20 =>
  Get (store1V x20 x15 H) fun H =>
  Get (nilV2 .neq .nilIface x16) fun x22 =>
  Br x22 (
  NewMap H fun x24 H =>
  Get (nilV a0) fun x25 =>
  Get (fieldAddrV 3 x25) fun x26 =>
  Get (store1V x26 x24 H) fun H =>
  R (.tuple #[]) H) (
  R (.tuple #[]) H)
def p214 : Plan := .seq (.leaf []) (.seq (.leaf []) (.seq (.leaf []) (.seq (.leaf []) (.cond (.leaf []) (.leaf [])))))
theorem s214 {a0 : Value} {H : Heap} {R : Value → Heap → Prop} (h : c214 a0 H R) : CallsH Tryz.prog 35 #[a0] H R :=
  callsH_of_eq p214 (fn := Tryz.f35) (c := Tryz.f35.body.getD .skip) (args := [a0]) Tryz.func35 (by kernel_rfl) mixed (by kernel_rfl) (by kernel_rfl) (by kernel_rfl) h
def c1019 (a0 : Value) (H : Heap) (R : Value → Heap → Prop) : Prop :=
  Join (fun K1 =>
  Fld 3 a0 H fun x6 =>
  Get (nilV2 .eql (.map none) x6) fun x7 =>
  Br x7 (
  CallsH Tryz.prog 35 #[a0] H fun _ H =>
  K1 [] H) (
  K1 [] H)) fun _ H =>
  Fld 2 a0 H fun x13 =>
  Get (strV .neq x13 (.string ⟨#[102, 111, 114, 109, 45, 100, 97, 116, 97]⟩)) fun x14 =>
  Br x14 (
  R (.string ⟨#[]⟩) H) (
  Fld 3 a0 H fun x18 =>
  ExecV Tryz.prog (Instr.lookup 83 x18 (.string ⟨#[110, 97, 109, 101]⟩) false) H fun x19 H =>
  R x19 H)
def p1019 : Plan := .seq (.leaf []) (.join [] (.seq (.leaf []) (.cond (.leaf []) (.leaf []))) (.seq (.seq (.leaf []) (.cond (.seq (.leaf []) (.leaf [])) (.leaf []))) (.seq (.leaf []) (.leaf []))))
theorem s1019 {a0 : Value} {H : Heap} {R : Value → Heap → Prop} (h : c1019 a0 H R) : CallsH Tryz.prog 19 #[a0] H R :=
  callsH_of_eq p1019 (fn := Tryz.f19) (c := Tryz.f19.body.getD .skip) (args := [a0]) Tryz.func19 (by kernel_rfl) mixed (by kernel_rfl) (by kernel_rfl) (by kernel_rfl) h
def c1020 (a0 : Value) (H : Heap) (R : Value → Heap → Prop) : Prop :=
  Join (fun K1 =>
  Fld 3 a0 H fun x7 =>
  Get (nilV2 .eql (.map none) x7) fun x8 =>
  Br x8 (
  CallsH Tryz.prog 35 #[a0] H fun _ H =>
  K1 [] H) (
  K1 [] H)) fun _ H =>
  Fld 3 a0 H fun x14 =>
  ExecV Tryz.prog (Instr.lookup 83 x14 (.string ⟨#[102, 105, 108, 101, 110, 97, 109, 101]⟩) false) H fun x15 H =>
  Get (strV .eql x15 (.string ⟨#[]⟩)) fun x17 =>
  Br x17 (
  R (.string ⟨#[]⟩) H) (
  CallsH Tryz.prog 36 #[x15] H fun x19 H =>
  R x19 H)
def p1020 : Plan := .seq (.leaf []) (.join [] (.seq (.leaf []) (.cond (.leaf []) (.leaf []))) (.seq (.leaf []) (.seq (.seq (.leaf []) (.cond (.seq (.leaf []) (.leaf [])) (.leaf []))) (.seq (.leaf []) (.leaf [])))))
theorem s1020 {a0 : Value} {H : Heap} {R : Value → Heap → Prop} (h : c1020 a0 H R) : CallsH Tryz.prog 20 #[a0] H R :=
  callsH_of_eq p1020 (fn := Tryz.f20) (c := Tryz.f20.body.getD .skip) (args := [a0]) Tryz.func20 (by kernel_rfl) mixed (by kernel_rfl) (by kernel_rfl) (by kernel_rfl) h
def c1006 (a0 a1 : Value) (H : Heap) (R : Value → Heap → Prop) : Prop :=
  CallsH Tryz.prog 15 #[a0] H fun x13 H =>
  CallsH Tryz.prog 14 #[x13, a1] H fun x15 H =>
  Loop [(.slice none 0 0)] H fun K1 vs2 H =>
  CallsH Tryz.prog 16 #[x15] H fun x18 H =>
  Get (extractV x18 0) fun x19 =>
  Get (extractV x18 1) fun x20 =>
  Get (nilV2 .neq .nilIface x20) fun x22 =>
  Br x22 (
  CallsH Tryz.prog 17 #[x20] H fun x25 H =>
  R (.tuple #[(nth vs2 0), x25]) H) (
  Get (some (Value.iface 41 x19)) fun x28 =>
  CallsH Tryz.prog 18 #[x28] H fun x29 H =>
  Get (extractV x29 0) fun x30 =>
  Get (extractV x29 1) fun x31 =>
  CallsH Tryz.prog 19 #[x19] H fun x34 H =>
  CallsH Tryz.prog 20 #[x19] H fun x36 H =>
  Get ((fillV #[(0, 1), (1, 1), (2, 1)] #[(.string ⟨#[]⟩), (.string ⟨#[]⟩), (.slice none 0 0)] [(0, x34), (1, x36), (2, x30)]).map .agg) fun x38 =>
  Get (Instr.fill (fun j => some (j * 3, 3)) ((Array.range (1 * 3)).map ((#[(.string ⟨#[]⟩), (.string ⟨#[]⟩), (.slice none 0 0)] : Array Value)[· % 3]!)) [(0, x38)]) fun cs => NewSl cs 31 1 H fun x39 H =>
  Append 31 3 56 #[(.string ⟨#[]⟩), (.string ⟨#[]⟩), (.slice none 0 0)] (nth vs2 0) x39 H fun x40 H =>
  Get (unV .not x31) fun x42 =>
  Br x42 (
  R (.tuple #[x40, (.int .i64 2)]) H) (
  K1 [x40] H))
def p1006 : Plan := .seq (.leaf []) (.seq (.leaf []) (.seq (.leaf []) (.block (.loop [6] (.block (.seq (.leaf []) (.seq (.seq (.leaf []) (.cond (.seq (.leaf []) (.leaf [])) (.leaf []))) (.seq (.leaf []) (.seq (.leaf []) (.seq (.leaf []) (.cond (.seq (.leaf []) (.leaf [])) (.leaf []))))))))))))
theorem s1006 {a0 a1 : Value} {H : Heap} {R : Value → Heap → Prop} (h : c1006 a0 a1 H R) : CallsH Tryz.prog 6 #[a0, a1] H R :=
  callsH_of_eq p1006 (fn := Tryz.f6) (c := Tryz.f6.body.getD .skip) (args := [a0, a1]) Tryz.func6 (by kernel_rfl) mixed (by kernel_rfl) (by kernel_rfl) (by kernel_rfl) h
def c1008 (a0 a1 : Value) (H : Heap) (R : Value → Heap → Prop) : Prop :=
  Get (lenV a0) fun x8 =>
  Get (lenV a1) fun x10 =>
  Get (arithV .neq .i64 x8 x10) fun x11 =>
  Br x11 (
  R (.bool false) H) (
  Get (lenV a0) fun x13 =>
  Loop [(.int .i64 0)] H fun K1 vs2 H =>
  Get (arithV .lss .i64 (nth vs2 0) x13) fun x15 =>
  Br x15 (
  Get (elemAddrV 3 a0 (nth vs2 0)) fun x17 =>
  Get (loadNV 3 x17 H) fun x18 =>
  New (.cells #[(.string ⟨#[]⟩), (.string ⟨#[]⟩), (.slice none 0 0)] 31 (0, 0)) H fun x6 H =>
  Get (storeNV 3 x6 x18 H) fun H =>
  Join (fun K3 =>
  Get (fieldAddrV 0 x6) fun x19 =>
  Get (load1V x19 H) fun x20 =>
  Get (elemAddrV 3 a1 (nth vs2 0)) fun x23 =>
  Get (fieldAddrV 0 x23) fun x24 =>
  Get (load1V x24 H) fun x25 =>
  Get (strV .neq x20 x25) fun x26 =>
  Br x26 (
  Get (pickV (.bool true) (.bool true) undef) fun x36 =>
  Br x36 (
  Get (pickV (.bool true) (.bool true) undef) fun x47 =>
  K3 [x47] H) (
  Get (fieldAddrV 2 x6) fun x38 =>
  Get (load1V x38 H) fun x39 =>
  Get (elemAddrV 3 a1 (nth vs2 0)) fun x42 =>
  Get (fieldAddrV 2 x42) fun x43 =>
  Get (load1V x43 H) fun x44 =>
  CallsH Tryz.prog 27 #[x39, x44] H fun x45 H =>
  Get (unV .not x45) fun x46 =>
  Get (pickV (.bool false) (.bool true) x46) fun x47_1 =>
  K3 [x47_1] H)) (
  Get (fieldAddrV 1 x6) fun x28 =>
  Get (load1V x28 H) fun x29 =>
  Get (elemAddrV 3 a1 (nth vs2 0)) fun x32 =>
  Get (fieldAddrV 1 x32) fun x33 =>
  Get (load1V x33 H) fun x34 =>
  Get (strV .neq x29 x34) fun x35 =>
  Get (pickV (.bool false) (.bool true) x35) fun x36_1 =>
  Br x36_1 (
  Get (pickV (.bool true) (.bool true) undef) fun x47_2 =>
  K3 [x47_2] H) (
  Get (fieldAddrV 2 x6) fun x38_1 =>
  Get (load1V x38_1 H) fun x39_1 =>
  Get (elemAddrV 3 a1 (nth vs2 0)) fun x42_1 =>
  Get (fieldAddrV 2 x42_1) fun x43_1 =>
  Get (load1V x43_1 H) fun x44_1 =>
  CallsH Tryz.prog 27 #[x39_1, x44_1] H fun x45_1 H =>
  Get (unV .not x45_1) fun x46_1 =>
  Get (pickV (.bool false) (.bool true) x46_1) fun x47_3 =>
  K3 [x47_3] H))) fun vs4 H =>
  Br (nth vs4 0) (
  R (.bool false) H) (
  Get (arithV .add .i64 (nth vs2 0) (.int .i64 1)) fun x48 =>
  K1 [x48] H)) (
  R (.bool true) H))
def p1008 : Plan := .seq (.leaf []) (.seq (.seq (.leaf []) (.cond (.seq (.leaf []) (.leaf [])) (.leaf []))) (.seq (.seq (.leaf []) (.block (.loop [14] (.seq (.leaf []) (.seq (.cond (.leaf []) (.leaf [])) (.seq (.block (.seq (.leaf []) (.join [47] (.leaf [0, 1, 2, 3, 4, 5, 6, 7, 8, 9, 10, 11, 12, 13, 14, 15, 16, 17, 18, 19, 20, 21, 22, 23, 24, 25, 26, 27, 28]) (.cond (.seq (.leaf []) (.leaf [])) (.leaf []))))) (.leaf []))))))) (.seq (.leaf []) (.leaf []))))
theorem s1008 {a0 a1 : Value} {H : Heap} {R : Value → Heap → Prop} (h : c1008 a0 a1 H R) : CallsH Tryz.prog 8 #[a0, a1] H R :=
  callsH_of_eq p1008 (fn := Tryz.f8) (c := Tryz.f8.body.getD .skip) (args := [a0, a1]) Tryz.func8 (by kernel_rfl) mixed (by kernel_rfl) (by kernel_rfl) (by kernel_rfl) h
def c1003 (a0 a1 : Value) (H : Heap) (R : Value → Heap → Prop) : Prop :=
  Join (fun K1 =>
  CallsH Tryz.prog 4 #[a0] H fun x8 H =>
  Get (unV .not x8) fun x9 =>
  Br x9 (
  Get (pickV (.bool true) (.bool true) undef) fun x14 =>
  K1 [x14] H) (
  Get (lenStrV a1) fun x12 =>
  Get (arithV .gtr .i64 x12 (.int .i64 2147483647)) fun x13 =>
  Get (pickV (.bool false) (.bool true) x13) fun x14_1 =>
  K1 [x14_1] H)) fun vs2 H =>
  Br (nth vs2 0) (
  R (.bool true) H) (
  Get (lenStrV a1) fun x16 =>
  Get (arithV .gtr .i64 x16 (.int .i64 16777216)) fun x17 =>
  Br x17 (
  R (.bool true) H) (
  CallsH Tryz.prog 5 #[a0, a1] H fun x20 H =>
  Get (unV .not x20) fun x21 =>
  Br x21 (
  R (.bool true) H) (
  CallsH Tryz.prog 7 #[a1, a0] H fun x25 H =>
  CallsH Tryz.prog 6 #[x25, a1] H fun x27 H =>
  Get (extractV x27 0) fun x28 =>
  Get (extractV x27 1) fun x29 =>
  Join (fun K3 =>
  Get (arithV .eql .i64 x29 (.int .i64 1)) fun x31 =>
  Br x31 (
  CallsH Tryz.prog 8 #[x28, a0] H fun x35 H =>
  Get (pickV (.bool true) x35 (.bool false)) fun x36 =>
  K3 [x36] H) (
  Get (pickV (.bool false) undef (.bool false)) fun x36_1 =>
  K3 [x36_1] H)) fun vs4 H =>
  R (nth vs4 0) H)))
def p1003 : Plan := .seq (.leaf []) (.seq (.join [14] (.leaf []) (.cond (.seq (.leaf []) (.leaf [])) (.leaf []))) (.seq (.seq (.leaf []) (.cond (.seq (.leaf []) (.leaf [])) (.leaf []))) (.seq (.seq (.leaf []) (.cond (.seq (.leaf []) (.leaf [])) (.leaf []))) (.seq (.leaf []) (.join [4] (.leaf []) (.leaf []))))))
theorem s1003 {a0 a1 : Value} {H : Heap} {R : Value → Heap → Prop} (h : c1003 a0 a1 H R) : CallsH Tryz.prog 3 #[a0, a1] H R :=
  callsH_of_eq p1003 (fn := Tryz.f3) (c := Tryz.f3.body.getD .skip) (args := [a0, a1]) Tryz.func3 (by kernel_rfl) mixed (by kernel_rfl) (by kernel_rfl) (by kernel_rfl) h
end Go.Cps
namespace Go.Cps
open Go Go.Proofs
set_option maxRecDepth 100000
theorem und83 : Tryz.prog.underlying 83 = some (.map 9 9) := by kernel_rfl
theorem und135 : Tryz.prog.underlying 135 = some (.map 9 83) := by kernel_rfl
theorem zero9 (w : World) : (zeroValue 9).run Tryz.prog w = .ok (strVal []) w := by kernel_rfl
theorem lookupS_run {m : Nat} {k : List UInt8} {ents : List (List UInt8 × Value)} {w : World} (h : MapAt w.heap m ents) (ok : Bool) :
    (Instr.lookup 83 (.map (some m)) (strVal k) ok).run Tryz.prog w = .ok (if ok then .tuple #[(getE k ents).getD (strVal []), .bool (getE k ents).isSome] else (getE k ents).getD (strVal [])) w := by
  obtain ⟨es, c, h1, h2, _, _⟩ := h
  have hf := find_run (k := k) h2 w
  have hs : (posE k ents).isSome = (getE k ents).isSome := posE_some
  have hc := check9 es.isEmpty ⟨k.toArray⟩ w
  simp only [Instr.lookup, Sem.run_bind, run_underlying und83, Result.andThen_ok, getObj, Sem.run, h1, Result.andThen, hf]
  have hp : (pure es : Sem (Array MapEntry)).run Tryz.prog w = .ok es w := rfl
  rw [hp]
  simp only []
  rw [show strVal k = .string ⟨k.toArray⟩ from rfl, hc]
  simp only []
  rw [show (Value.string ⟨k.toArray⟩) = strVal k from rfl, hf]
  cases hg : getE k ents with
  | none =>
    rw [hg] at hs
    have : posE k ents = none := by simpa using hs
    rw [this]
    cases ok <;> simp [Result.andThen, zero9] <;> rfl
  | some v =>
    rw [hg] at hs
    obtain ⟨j, hj⟩ := Option.isSome_iff_exists.1 (by simpa using hs)
    rw [hj]
    cases ok <;> simp [Result.andThen]
theorem lookupS_of {m : Nat} {k : List UInt8} {ents : List (List UInt8 × Value)} {H : Heap} {K : Value → Heap → Prop} (h : MapAt H m ents) :
    ExecV Tryz.prog (Instr.lookup 83 (.map (some m)) (strVal k) false) H K = K ((getE k ents).getD (strVal [])) H := by
  apply ExecV.eq
  intro w hw
  subst hw
  exact lookupS_run h false
theorem lookupS2_of {m : Nat} {k : List UInt8} {ents : List (List UInt8 × Value)} {H : Heap} {K : Value → Heap → Prop} (h : MapAt H m ents) :
    ExecV Tryz.prog (Instr.lookup 83 (.map (some m)) (strVal k) true) H K = K (.tuple #[(getE k ents).getD (strVal []), .bool (getE k ents).isSome]) H := by
  apply ExecV.eq
  intro w hw
  subst hw
  exact lookupS_run h true
theorem rangeNil_of {H : Heap} {K : Value → Heap → Prop} : ExecV Tryz.prog (Instr.range 135 (.map none)) H K = K (.pointer (some ⟨H.size, 0, none⟩)) (H.push (.mapIter none 0 #[] 0)) := by
  apply ExecV.eq'
  intro w hw
  subst hw
  refine ⟨{ w with heap := w.heap.push (.mapIter none 0 #[] 0) }, ?_, ⟨rfl, rfl, rfl⟩, rfl⟩
  simp only [Instr.range, Sem.run_bind, run_underlying' und135, Result.andThen_ok, Sem.run_pure]
  rfl
theorem nextNil_of {r : Nat} {H : Heap} {K : Value → Heap → Prop} (h : H[r]? = some (.mapIter none 0 #[] 0)) : ExecV Tryz.prog (Instr.next (.pointer (some ⟨r, 0, none⟩)) false 0) H K = K (.tuple #[.bool false]) H := by
  apply ExecV.eq
  intro w hw
  subst hw
  simp [Instr.next, getObj, Sem.run, h]
def parsT (ps : List (List UInt8 × List UInt8)) : List UInt8 := ps.flatMap fun p => parT p.1 p.2
structure GoodPar (p : List UInt8 × List UInt8) : Prop where
  ne : p.1 ≠ []
  tok : ∀ b ∈ p.1, tokG b.toNat = true
  low : lowS p.1 = true
  star : 42 ∉ p.1
  val : p.2.all prB = true
def parEs (ps : List (List UInt8 × List UInt8)) : List (List UInt8 × Value) := ps.map fun p => (p.1, strVal p.2)
theorem getE_new {k : List UInt8} : ∀ {ps : List (List UInt8 × List UInt8)}, (∀ p ∈ ps, p.1 ≠ k) → getE k (parEs ps) = none ∧ ∀ v, setE k v (parEs ps) = parEs ps ++ [(k, v)]
  | [], _ => ⟨rfl, fun _ => rfl⟩
  | p :: r, h => by
    have hp := h p (by simp)
    obtain ⟨h1, h2⟩ := getE_new (k := k) (ps := r) (fun q hq => h q (by simp [hq]))
    have e : parEs (p :: r) = (p.1, strVal p.2) :: parEs r := rfl
    refine ⟨?_, fun v => ?_⟩
    · rw [e]; simp only [getE]; rw [if_neg hp]; exact h1
    · rw [e]; simp only [setE]; rw [if_neg hp, h2]; rfl
theorem parse_ok {p0 : List UInt8 × List UInt8} {ps : List (List UInt8 × List UInt8)} {H : Heap} (ha : AscAt H) (hg : ∀ p ∈ p0 :: ps, GoodPar p) (hnd : ((p0 :: ps).map (·.1)).Nodup) (hl : (fdT ++ parsT (p0 :: ps)).length < 2 ^ 36) :
    CallsH Tryz.prog 50 #[strVal (fdT ++ parsT (p0 :: ps))] H fun x H' => ∃ m, x = .tuple #[strVal fdT, .map (some m), .nilIface] ∧ MapAt H' m (parEs (p0 :: ps)) ∧ Frm [] H H' ∧ H.size ≤ m := by
  apply s1050
  unfold c1050
  have hsemi : (59 : UInt8) ∉ fdT := by decide
  have hv : fdT ++ parsT (p0 :: ps) = fdT ++ 59 :: (32 :: (p0.1 ++ 61 :: 34 :: (quoteB p0.2 ++ [34])) ++ parsT ps) := by simp [parsT, parT]
  refine (show CallsH Tryz.prog 68 #[strVal (fdT ++ parsT (p0 :: ps)), strVal [59]] H _ from by rw [hv] at hl ⊢; exact cutAt_ok hsemi (by omega)).mono ?_
  rintro x H0 ⟨rfl, rfl⟩
  simp only [Q0, Q1, Q2, Q3, Q4, Q5, Q6, Q7, Q8, Q9, Qa, Qb, Qc, Qd, Qe, Qf, Qg, Qh, Qi, Qj]
  refine (toLower_ok (l := fdT) (by decide) (by decide)).mono ?_
  rintro x H0 ⟨rfl, rfl⟩
  refine (trimSp_ok ha).mono ?_
  rintro x H1 ⟨rfl, f1⟩
  refine checkDisp_ok.mono ?_
  rintro x H1 ⟨rfl, rfl⟩
  have en : nilV2 .neq .nilIface .nilIface = some (.bool false) := rfl
  have e9 : strSliceV (strVal (fdT ++ parsT (p0 :: ps))) (some (.int .i64 ((fdT.length : Nat) : Int))) none = some (strVal (parsT (p0 :: ps))) := by
    rw [strSlice_from (l := fdT ++ parsT (p0 :: ps)) (i := fdT.length) (by simp), List.drop_left]
  simp only [en, Q0, Q1, Q2, Q3, Q4, Q5, Q6, Q7, Q8, Q9, Qa, Qb, Qc, Qd, Qe, Qf, Qg, Qh, Qi, Qj, NewMap, lenStr_of, e9]
  have hm0 := mapAt_new H1
  have f2 : Frm [] H1 (H1.push (.map #[] 0)) := Frm.push _ _ _
  have z2 : (H1.push (.map #[] 0)).size = H1.size + 1 := by simp
  generalize H1.push (.map #[] 0) = H2 at *
  have hz1 := f1.size
  refine ⟨fun vs H' => vs = [strVal fdT, .map (some H1.size), .nilIface, .map none] ∧ MapAt H' H1.size (parEs (p0 :: ps)) ∧ Frm [] H0 H', ?_, ?_⟩
  · refine ⟨fun μ vs H3 => ∃ done todo, p0 :: ps = done ++ todo ∧ vs = [strVal (parsT todo), strVal fdT, .map (some H1.size), .nilIface, .map none] ∧ μ = todo.length ∧ MapAt H3 H1.size (parEs done) ∧ Frm [] H0 H3,
      ⟨_, [], p0 :: ps, rfl, rfl, rfl, hm0, f1.trans f2⟩, ?_⟩
    rintro μ vs H3 ⟨done, todo, hsp, rfl, rfl, hm3, f3⟩
    cases todo with
    | nil =>
      have e0 : arithV .gtr .i64 (.int .i64 (((parsT []).length : Nat) : Int)) (.int .i64 0) = some (.bool false) := rfl
      simp only [Q0, Q1, Q2, Q3, Q4, Q5, Q6, Q7, Q8, Q9, Qa, Qb, Qc, Qd, Qe, Qf, Qg, Qh, Qi, Qj, lenStr_of, e0, nth_three, nth_four]
      rw [List.append_nil] at hsp
      rw [← hsp] at hm3
      exact ⟨trivial, hm3, f3⟩
    | cons p todo =>
      have hgp := hg p (by rw [hsp]; simp)
      have htl : (parsT (p :: todo)).length < 2 ^ 36 := by
        have e : (fdT ++ parsT (p0 :: ps)).length = fdT.length + ((parsT done).length + (parsT (p :: todo)).length) := by rw [hsp]; simp [parsT]
        omega
      have hpt : parsT (p :: todo) = parT p.1 p.2 ++ parsT todo := rfl
      have hcons : parsT (p :: todo) = 59 :: (32 :: (p.1 ++ 61 :: 34 :: (quoteB p.2 ++ [34])) ++ parsT todo) := by rw [hpt]; rfl
      have hpos : 0 < (parsT (p :: todo)).length := by rw [hcons]; simp
      have e0 : arithV .gtr .i64 (.int .i64 (((parsT (p :: todo)).length : Nat) : Int)) (.int .i64 0) = some (.bool true) := by
        simp only [Qk, Ql, Qm, Qn, Qo, Qp, Qq, Qr, Qs, Option.some.injEq, Value.bool.injEq, decide_eq_true_eq]; omega
      have e1 : arithV .eql .i64 (.int .i64 (((parsT (p :: todo)).length : Nat) : Int)) (.int .i64 0) = some (.bool false) := by
        simp only [Qk, Ql, Qm, Qn, Qo, Qp, Qq, Qr, Qs, Option.some.injEq, Value.bool.injEq, beq_eq_false_iff_ne]; omega
      simp only [Q0, Q1, Q2, Q3, Q4, Q5, Q6, Q7, Q8, Q9, Qa, Qb, Qc, Qd, Qe, Qf, Qg, Qh, Qi, Qj, lenStr_of, e0, nth_three, nth_four]
      refine (show CallsH Tryz.prog 72 #[strVal (parsT (p :: todo)), .func (.func 73) #[] #[]] H3 fun x H' => x = strVal (parsT (p :: todo)) ∧ Frm [] H3 H' from by rw [hcons]; exact trim0_ok (by decide) (by decide) (by rw [← hcons]; omega)).mono ?_
      rintro x H4 ⟨rfl, f4⟩
      simp only [lenStr_of, e1, Q0, Q1, Q2, Q3, Q4, Q5, Q6, Q7, Q8, Q9, Qa, Qb, Qc, Qd, Qe, Qf, Qg, Qh, Qi, Qj]
      rw [hpt]
      refine (conPar_ok hgp.ne hgp.tok hgp.low hgp.val (by rw [← hpt]; omega)).mono ?_
      rintro x H5 ⟨rfl, f5⟩
      have ek : strV .eql (strVal p.1) (.string ⟨#[]⟩) = some (.bool false) := by
        rw [show (Value.string ⟨#[]⟩) = strVal [] from rfl, strV_eql', decide_eq_false hgp.ne]
      simp only [Q0, Q1, Q2, Q3, Q4, Q5, Q6, Q7, Q8, Q9, Qa, Qb, Qc, Qd, Qe, Qf, Qg, Qh, Qi, Qj, ek]
      refine Join_direct ?_
      refine (show CallsH Tryz.prog 68 #[strVal p.1, strVal [42]] H5 _ from cutNone_ok hgp.star (by
        have : p.1.length ≤ (parsT (p :: todo)).length := by rw [hcons]; simp; omega
        omega)).mono ?_
      rintro x H6 ⟨rfl, rfl⟩
      have hm6 := (hm3.frm f4 (by simp)).frm f5 (by simp)
      have hfresh : ∀ q ∈ done, q.1 ≠ p.1 := by
        intro q hq e
        have hh := hnd
        rw [hsp, List.map_append, List.nodup_append] at hh
        exact hh.2.2 q.1 (List.mem_map.2 ⟨q, hq, rfl⟩) p.1 (by simp) e
      obtain ⟨g1, g2⟩ := getE_new hfresh
      simp only [Q0, Q1, Q2, Q3, Q4, Q5, Q6, Q7, Q8, Q9, Qa, Qb, Qc, Qd, Qe, Qf, Qg, Qh, Qi, Qj]
      rw [lookupS2_of hm6, g1]
      simp only [Q0, Q1, Q2, Q3, Q4, Q5, Q6, Q7, Q8, Q9, Qa, Qb, Qc, Qd, Qe, Qf, Qg, Qh, Qi, Qj, Option.isSome_none]
      refine ⟨fun vs H' => vs = [.bool false] ∧ H' = H6, ?_, ?_⟩
      · simp only [Q0, Q1, Q2, Q3, Q4, Q5, Q6, Q7, Q8, Q9, Qa, Qb, Qc, Qd, Qe, Qf, Qg, Qh, Qi, Qj, Bool.false_eq_true, if_false, and_self]
      rintro _ H7 ⟨rfl, rfl⟩
      simp only [Q0, Q1, Q2, Q3, Q4, Q5, Q6, Q7, Q8, Q9, Qa, Qb, Qc, Qd, Qe, Qf, Qg, Qh, Qi, Qj]
      obtain ⟨H8, hm8, f8, z8, hex⟩ := update_of und83 (k := p.1) (v := strVal p.2) hm6
      rw [hex, g2] at *
      refine ⟨_, by simp, done ++ [p], todo, by rw [hsp]; simp, rfl, rfl, ?_, ?_⟩
      · simpa [parEs] using hm8
      · exact ((f3.trans f4).trans f5).up f8 (fun x hx => by rw [List.mem_singleton] at hx; subst hx; exact .inr hz1)
  · rintro _ H3 ⟨rfl, hm3, f3⟩
    simp only [Q0, Q1, Q2, Q3, Q4, Q5, Q6, Q7, Q8, Q9, Qa, Qb, Qc, Qd, Qe, Qf, Qg, Qh, Qi, Qj, nth_three]
    rw [New]
    have f4 : Frm [] H3 (H3.push (.cells #[(.pointer none), (.slice none 0 0)] 144 (0, 0))) := Frm.push _ _ _
    generalize H3.push (.cells #[(.pointer none), (.slice none 0 0)] 144 (0, 0)) = H4 at *
    rw [rangeNil_of]
    have f5 : Frm [] H4 (H4.push (.mapIter none 0 #[] 0)) := Frm.push _ _ _
    have hit := push_same H4 (.mapIter none 0 #[] 0)
    generalize hH5 : H4.push (.mapIter none 0 #[] 0) = H5 at *
    refine ⟨fun μ vs H' => H' = H5, ⟨0, rfl⟩, ?_⟩
    rintro μ vs H6 rfl
    rw [nextNil_of hit]
    simp only [Q0, Q1, Q2, Q3, Q4, Q5, Q6, Q7, Q8, Q9, Qa, Qb, Qc, Qd, Qe, Qf, Qg, Qh, Qi, Qj]
    exact ⟨H1.size, rfl, (hm3.frm f4 (by simp)).frm f5 (by simp), (f3.trans f4).trans f5, hz1⟩
end Go.Cps
namespace Go.Cps
open Go Go.Proofs
def nameK : List UInt8 := [110, 97, 109, 101]
def fileK : List UInt8 := [102, 105, 108, 101, 110, 97, 109, 101]
def parsOf (f : FieldL) : List (List UInt8 × List UInt8) := (nameK, f.name) :: if f.file = [] then [] else [(fileK, f.file)]
theorem dispOf_pars (f : FieldL) : dispOf f = fdT ++ parsT (parsOf f) := by
  unfold dispOf parsOf
  have e1 : dName = fdT ++ (59 :: 32 :: (nameK ++ [61, 34])) := by decide
  have e2 : dFile = 59 :: 32 :: (fileK ++ [61, 34]) := by decide
  split
  · simp [parsT, parT, e1]
  · simp [parsT, parT, e1, e2]
theorem nameK_good {l : List UInt8} (h : l.all prB = true) : GoodPar (nameK, l) := ⟨(by decide : nameK ≠ []), (by decide : ∀ b ∈ nameK, tokG b.toNat = true), (by decide : lowS nameK = true), (by decide : 42 ∉ nameK), h⟩
theorem fileK_good {l : List UInt8} (h : l.all prB = true) : GoodPar (fileK, l) := ⟨(by decide : fileK ≠ []), (by decide : ∀ b ∈ fileK, tokG b.toNat = true), (by decide : lowS fileK = true), (by decide : 42 ∉ fileK), h⟩
theorem parsOf_good {f : FieldL} (h1 : f.name.all prB = true) (h2 : f.file.all prB = true) : ∀ p ∈ parsOf f, GoodPar p := by
  intro p hp
  unfold parsOf at hp
  rcases List.mem_cons.1 hp with rfl | hp
  · exact nameK_good h1
  · split at hp
    · cases hp
    · rw [List.mem_singleton] at hp; subst hp; exact fileK_good h2
theorem parsOf_nodup (f : FieldL) : ((parsOf f).map (·.1)).Nodup := by
  unfold parsOf
  split
  · simp
  · simp only [List.map_cons, List.map_nil, List.nodup_cons, List.not_mem_nil, not_false_eq_true, List.nodup_nil, and_true, List.mem_singleton]
    decide
theorem getE_name (f : FieldL) : getE nameK (parEs (parsOf f)) = some (strVal f.name) := by
  simp [parsOf, parEs, getE]
theorem getE_file (f : FieldL) : (getE fileK (parEs (parsOf f))).getD (strVal []) = strVal f.file := by
  have hne : ¬ nameK = fileK := by decide
  unfold parsOf
  split
  · rename_i h
    simp [parEs, getE, hne, h]
  · simp [parEs, getE, hne]
theorem parseDisp_ok {P : PF} {pt mr n total hm N : Nat} {ev rv : Value} {TP : TypeId} {E : List Ent} {f : FieldL} {H : Heap} (hp : H[pt]? = some (.cells (ptCells P mr n total ev rv) TP (0, 0))) (hh : P.hdr = .map (some hm)) (hE : Ents H hm N E) (hd : firstOf cdKey (E.map Ent.hd) = dispOf f) (ha : AscAt H)
    (h1 : f.name.all prB = true) (h2 : f.file.all prB = true) (hl : (dispOf f).length < 2 ^ 36) :
    CallsH Tryz.prog 35 #[.pointer (some ⟨pt, 0, none⟩)] H fun _ H' => ∃ m, H'[pt]? = some (.cells (ptCells { P with disp := strVal fdT, params := .map (some m) } mr n total ev rv) TP (0, 0)) ∧ MapAt H' m (parEs (parsOf f)) ∧ Frm [pt] H H' ∧ H.size ≤ m ∧ m < H'.size := by
  apply s214
  have c0 : cellH H ⟨pt, 0, none⟩ = some (.map (some hm)) := by rw [cellH_of hp, ← hh]; rfl
  simp only [c214, Q0, Q1, Q2, Q3, Q4, Q5, Q6, Q7, Q8, Q9, Qa, Qb, Qc, Qd, Qe, Qf, Qg, Qh, Qi, Qj, c0]
  refine (get_ok (key := cdKey) (hE.toG (D := []) (by simp)) (by decide) cd_tok cd_canon).mono ?_
  rintro x H1 ⟨rfl, f1⟩
  have hfirst : firstOf cdKey ((E.map fun e => (e.hd, e.pair.2)).map (·.1)) = dispOf f := by rw [List.map_map]; exact hd
  rw [hfirst, dispOf_pars]
  rw [dispOf_pars] at hl
  refine (parse_ok (p0 := (nameK, f.name)) (ps := if f.file = [] then [] else [(fileK, f.file)]) (ha.frm f1 (by simp)) (parsOf_good h1 h2) (parsOf_nodup f) hl).mono ?_
  rintro x H2 ⟨m, rfl, hm2, f2, hm1⟩
  have hp2 := f2.get (f1.get hp (by simp)) (by simp)
  have hs1 := f1.size
  have hptl := lt_of_some hp
  have hml : m < H2.size := by
    obtain ⟨es, c, h0, _⟩ := hm2
    exact lt_of_some h0
  have en : nilV2 .neq .nilIface .nilIface = some (.bool false) := rfl
  simp only [Q0, Q1, Q2, Q3, Q4, Q5, Q6, Q7, Q8, Q9, Qa, Qb, Qc, Qd, Qe, Qf, Qg, Qh, Qi, Qj]
  refine Store_of hp2 (by simp [ptCells]) rfl fun H3 hp3 f3 z3 => ?_
  refine Store_of hp3 (by simp [ptCells]) rfl fun H4 hp4 f4 z4 => ?_
  simp only [ptCells, Qt, Qu, Qv] at hp4
  simp only [en, Q0, Q1, Q2, Q3, Q4, Q5, Q6, Q7, Q8, Q9, Qa, Qb, Qc, Qd, Qe, Qf, Qg, Qh, Qi, Qj]
  have hmpt : m ∉ [pt] := by rw [List.mem_singleton]; omega
  exact ⟨m, hp4, (hm2.frm f3 hmpt).frm f4 hmpt, (((f1.mono (by simp)).trans (f2.mono (by simp))).trans f3).trans f4, by omega, by omega⟩
theorem formName_ok {P : PF} {pt mr n total hm N : Nat} {ev rv : Value} {TP : TypeId} {E : List Ent} {f : FieldL} {H : Heap} (hp : H[pt]? = some (.cells (ptCells P mr n total ev rv) TP (0, 0))) (hh : P.hdr = .map (some hm)) (hq : P.params = .map none) (hE : Ents H hm N E) (hd : firstOf cdKey (E.map Ent.hd) = dispOf f) (ha : AscAt H)
    (h1 : f.name.all prB = true) (h2 : f.file.all prB = true) (hl : (dispOf f).length < 2 ^ 36) :
    CallsH Tryz.prog 19 #[.pointer (some ⟨pt, 0, none⟩)] H fun x H' => ∃ m, x = strVal f.name ∧ H'[pt]? = some (.cells (ptCells { P with disp := strVal fdT, params := .map (some m) } mr n total ev rv) TP (0, 0)) ∧ MapAt H' m (parEs (parsOf f)) ∧ Frm [pt] H H' ∧ H.size ≤ m ∧ m < H'.size := by
  apply s1019
  have c3 : cellH H ⟨pt, 3, none⟩ = some (.map none) := by rw [cellH_of hp, ← hq]; rfl
  have e0 : nilV2 .eql (.map none) (.map none) = some (.bool true) := rfl
  unfold c1019
  refine ⟨fun _ H' => ∃ m, H'[pt]? = some (.cells (ptCells { P with disp := strVal fdT, params := .map (some m) } mr n total ev rv) TP (0, 0)) ∧ MapAt H' m (parEs (parsOf f)) ∧ Frm [pt] H H' ∧ H.size ≤ m ∧ m < H'.size, ?_, ?_⟩
  · simp only [Q0, Q1, Q2, Q3, Q4, Q5, Q6, Q7, Q8, Q9, Qa, Qb, Qc, Qd, Qe, Qf, Qg, Qh, Qi, Qj, c3, e0]
    exact parseDisp_ok hp hh hE hd ha h1 h2 hl
  · rintro _ H1 ⟨m, hp1, hm1, f1, g1, g2⟩
    have c2 : cellH H1 ⟨pt, 2, none⟩ = some (strVal fdT) := by rw [cellH_of hp1]; rfl
    have c3' : cellH H1 ⟨pt, 3, none⟩ = some (.map (some m)) := by rw [cellH_of hp1]; rfl
    have e1 : strV .neq (strVal fdT) (.string ⟨#[102, 111, 114, 109, 45, 100, 97, 116, 97]⟩) = some (.bool false) := by
      rw [show (Value.string ⟨#[102, 111, 114, 109, 45, 100, 97, 116, 97]⟩) = strVal fdT from rfl, strV_neq']
      simp
    simp only [Q0, Q1, Q2, Q3, Q4, Q5, Q6, Q7, Q8, Q9, Qa, Qb, Qc, Qd, Qe, Qf, Qg, Qh, Qi, Qj, c2, c3', e1]
    rw [show (Value.string ⟨#[110, 97, 109, 101]⟩) = strVal nameK from rfl, lookupS_of hm1, getE_name]
    exact ⟨m, rfl, hp1, hm1, f1, g1, g2⟩
theorem fileName_ok {P : PF} {pt mr n total m : Nat} {ev rv : Value} {TP : TypeId} {f : FieldL} {H : Heap} (hp : H[pt]? = some (.cells (ptCells P mr n total ev rv) TP (0, 0))) (hq : P.params = .map (some m)) (hm : MapAt H m (parEs (parsOf f))) (hs : 47 ∉ f.file) (hl : f.file.length < 2 ^ 40) :
    CallsH Tryz.prog 20 #[.pointer (some ⟨pt, 0, none⟩)] H fun x H' => x = strVal f.file ∧ H' = H := by
  apply s1020
  have c3 : cellH H ⟨pt, 3, none⟩ = some (.map (some m)) := by rw [cellH_of hp, ← hq]; rfl
  have e0 : nilV2 .eql (.map none) (.map (some m)) = some (.bool false) := rfl
  unfold c1020
  refine Join_direct ?_
  simp only [Q0, Q1, Q2, Q3, Q4, Q5, Q6, Q7, Q8, Q9, Qa, Qb, Qc, Qd, Qe, Qf, Qg, Qh, Qi, Qj, c3, e0]
  rw [show (Value.string ⟨#[102, 105, 108, 101, 110, 97, 109, 101]⟩) = strVal fileK from rfl, lookupS_of hm, getE_file]
  rw [show (Value.string ⟨#[]⟩) = strVal [] from rfl, strV_eql', Q6]
  refine Br_intro (fun h1 => ?_) (fun h1 => ?_)
  · have h1' : f.file = [] := by simpa using h1
    rw [h1']
    exact ⟨rfl, rfl⟩
  · have h1' : f.file ≠ [] := by simpa using h1
    refine (base_ok h1' hs hl).mono ?_
    rintro x H1 ⟨rfl, rfl⟩
    exact ⟨rfl, rfl⟩
end Go.Cps
