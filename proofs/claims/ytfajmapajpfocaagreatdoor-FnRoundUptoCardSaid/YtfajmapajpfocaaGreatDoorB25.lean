/-
  A part of the proof (its texts: GC, L55, L64): each text says below what it proves.
  Conditions: each contract's own.
-/
import Derived.Test.YtfajmapajpfocaaGreatDoorB5
import Derived.Test.YtfajmapajpfocaaGreatDoorB6
import Derived.Test.YtfajmapajpfocaaGreatDoorB22
import Derived.Test.YtfajmapajpfocaaGreatDoorB24
set_option linter.all false
/-
  What the bodies of some functions of the program come to, at heap level, each proved of the program itself.
  Conditions: none. Written by gen.py.
-/
namespace Go.Cps
open Go Go.Proofs
set_option maxRecDepth 100000

/-- impl.header -/
def c33 (a0 : Value) (H : Heap) (R : Value → Heap → Prop) : Prop :=
  NewMap H fun x6 H =>
  Get (lenV a0) fun x8 =>
  Loop [(.int .i64 0)] H fun K1 vs2 H =>
  Get (arithV .lss .i64 (nth vs2 0) x8) fun x10 =>
  Br x10 (
  Get (elemAddrV 2 a0 (nth vs2 0)) fun x11 =>
  Get (loadNV 2 x11 H) fun x12 =>
  New (.cells #[(.string ⟨#[]⟩), (.slice none 0 0)] 90 (0, 0)) H fun x5 H =>
  Get (storeNV 2 x5 x12 H) fun H =>
  Get (fieldAddrV 0 x5) fun x14 =>
  Get (load1V x14 H) fun x15 =>
  Get (fieldAddrV 0 x5) fun x17 =>
  Get (load1V x17 H) fun x18 =>
  Get (fieldAddrV 1 x5) fun x20 =>
  Get (load1V x20 H) fun x21 =>
  ExecV Tryz.prog (Instr.lookup 66 x6 x18 false) H fun x19 H =>
  (load1V x20 H = some x21 ∧ (load1V x14 H = some x15 ∧ True)) ∧
  Append 9 1 16 #[(.string ⟨#[]⟩)] x19 x21 H fun x22 H =>
  (load1V x14 H = some x15 ∧ True) ∧
  ExecV Tryz.prog (do Instr.mapUpdate 66 x6 x15 x22; pure undef) H fun u H =>
  Get (arithV .add .i64 (nth vs2 0) (.int .i64 1)) fun x23 =>
  K1 [x23] H) (
  R x6 H)
def p33 : Plan := .seq (.leaf []) (.seq (.leaf []) (.seq (.seq (.leaf []) (.block (.loop [9] (.seq (.leaf []) (.seq (.cond (.leaf []) (.leaf [])) (.seq (.block (.seq (.leaf []) (.leaf [0, 1, 2, 3, 4, 5, 7, 8, 6, 9, 10]))) (.leaf []))))))) (.seq (.leaf []) (.leaf []))))
theorem s33 {a0 : Value} {H : Heap} {R : Value → Heap → Prop} (h : c33 a0 H R) : CallsH Tryz.prog 33 #[a0] H R :=
  callsH_of_eq p33 (fn := Tryz.f33) (c := Tryz.f33.body.getD .skip) (args := [a0]) Tryz.func33 (by kernel_rfl) mixed (by kernel_rfl) (by kernel_rfl) (by kernel_rfl) h

/-- (*pub/multipart.Writer).CreatePart -/
def c32 (a0 a1 : Value) (H : Heap) (R : Value → Heap → Prop) : Prop :=
  Join (fun K1 =>
  Fld 2 a0 H fun x18 =>
  Get (nilV2 .neq (.pointer none) x18) fun x19 =>
  Br x19 (
  Fld 2 a0 H fun x23 =>
  CallsH Tryz.prog 61 #[x23] H fun x24 H =>
  Get (nilV2 .neq .nilIface x24) fun x26 =>
  Br x26 (
  R (.tuple #[.nilIface, x24]) H) (
  K1 [] H)) (
  K1 [] H)) fun _ H =>
  New (.cells #[(.slice none 0 0), (.int .i64 0), (.int .i8 0)] 55 (0, 0)) H fun x7 H =>
  Join (fun K3 =>
  Fld 2 a0 H fun x31 =>
  Get (nilV2 .neq (.pointer none) x31) fun x32 =>
  Br x32 (
  Fld 1 a0 H fun x36 =>
  Get (strV .add (.string ⟨#[13, 10, 45, 45]⟩) x36) fun x37 =>
  Get (strV .add x37 (.string ⟨#[13, 10]⟩)) fun x38 =>
  CallsH Tryz.prog 62 #[x7, x38] H fun _ H =>
  K3 [] H) (
  Fld 1 a0 H fun x43 =>
  Get (strV .add (.string ⟨#[45, 45]⟩) x43) fun x44 =>
  Get (strV .add x44 (.string ⟨#[13, 10]⟩)) fun x45 =>
  CallsH Tryz.prog 62 #[x7, x45] H fun _ H =>
  K3 [] H)) fun _ H =>
  CallsH Tryz.prog 64 #[a1] H fun x48 H =>
  CallsH Tryz.prog 63 #[x48] H fun x49 H =>
  Get (lenV x49) fun x50 =>
  Loop [(.int .i64 0)] H fun K5 vs6 H =>
  Get (arithV .lss .i64 (nth vs6 0) x50) fun x52 =>
  Br x52 (
  Get (elemAddrV 1 x49 (nth vs6 0)) fun x53 =>
  Get (load1V x53 H) fun x54 =>
  ExecV Tryz.prog (Instr.lookup 106 a1 x54 false) H fun x57 H =>
  Get (lenV x57) fun x58 =>
  Loop [(.int .i64 0)] H fun K7 vs8 H =>
  Get (arithV .lss .i64 (nth vs8 0) x58) fun x60 =>
  Br x60 (
  Get (elemAddrV 1 x57 (nth vs8 0)) fun x61 =>
  Get (load1V x61 H) fun x62 =>
  Get (strV .add x54 (.string ⟨#[58, 32]⟩)) fun x64 =>
  Get (strV .add x64 x62) fun x66 =>
  Get (strV .add x66 (.string ⟨#[13, 10]⟩)) fun x67 =>
  CallsH Tryz.prog 62 #[x7, x67] H fun _ H =>
  Get (arithV .add .i64 (nth vs8 0) (.int .i64 1)) fun x69 =>
  K7 [x69] H) (
  Get (arithV .add .i64 (nth vs6 0) (.int .i64 1)) fun x70 =>
  K5 [x70] H)) (
  CallsH Tryz.prog 62 #[x7, (.string ⟨#[13, 10]⟩)] H fun _ H =>
  Fld 0 a0 H fun x76 =>
  Get (some (Value.iface 58 x7)) fun x77 =>
  CallsH Tryz.prog 65 #[x76, x77] H fun x78 H =>
  Get (extractV x78 0) fun _ =>
  Get (extractV x78 1) fun x80 =>
  Get (nilV2 .neq .nilIface x80) fun x82 =>
  Br x82 (
  R (.tuple #[.nilIface, x80]) H) (
  Get ((fillV #[(0, 1), (1, 1), (2, 1)] #[(.pointer none), (.bool false), .nilIface] [(0, a0)]).map .agg) fun x85 =>
  New (.cells (Value.cells x85) 115 (0, 0)) H fun x86 H =>
  Get (nilV a0) fun x89 =>
  Get (fieldAddrV 2 x89) fun x90 =>
  Get (store1V x90 x86 H) fun H =>
  Get (some (Value.iface 103 x86)) fun x92 =>
  R (.tuple #[x92, .nilIface]) H))
def p32 : Plan := .seq (.leaf []) (.join [] (.seq (.leaf []) (.cond (.seq (.leaf []) (.seq (.leaf []) (.cond (.seq (.leaf []) (.leaf [])) (.leaf [])))) (.leaf []))) (.seq (.leaf []) (.join [] (.seq (.leaf []) (.cond (.leaf []) (.leaf []))) (.seq (.seq (.leaf []) (.block (.loop [51] (.seq (.leaf []) (.seq (.cond (.leaf []) (.leaf [])) (.seq (.block (.seq (.leaf []) (.seq (.leaf []) (.block (.loop [59] (.seq (.leaf []) (.seq (.cond (.leaf []) (.leaf [])) (.seq (.block (.seq (.leaf []) (.leaf []))) (.leaf []))))))))) (.leaf []))))))) (.seq (.leaf []) (.seq (.leaf []) (.seq (.seq (.leaf []) (.cond (.seq (.leaf []) (.leaf [])) (.leaf []))) (.seq (.leaf []) (.seq (.leaf []) (.seq (.leaf []) (.leaf [])))))))))))
theorem s32 {a0 a1 : Value} {H : Heap} {R : Value → Heap → Prop} (h : c32 a0 a1 H R) : CallsH Tryz.prog 32 #[a0, a1] H R :=
  callsH_of_eq p32 (fn := Tryz.f32) (c := Tryz.f32.body.getD .skip) (args := [a0, a1]) Tryz.func32 (by kernel_rfl) mixed (by kernel_rfl) (by kernel_rfl) (by kernel_rfl) h

/-- (*pub/multipart.Writer).WriteField -/
def c43 (a0 a1 a2 : Value) (H : Heap) (R : Value → Heap → Prop) : Prop :=
  CallsH Tryz.prog 73 #[a0, a1] H fun x12 H =>
  Get (extractV x12 0) fun x13 =>
  Get (extractV x12 1) fun x14 =>
  Get (nilV2 .neq .nilIface x14) fun x16 =>
  Br x16 (
  R x14 H) (
  ToBytes 5 a2 H fun x21 H =>
  Invoke Tryz.prog "Write" x13 #[x21] H fun x22 H =>
  Get (extractV x22 0) fun _ =>
  Get (extractV x22 1) fun x24 =>
  R x24 H)
def p43 : Plan := .seq (.leaf []) (.seq (.leaf []) (.seq (.seq (.leaf []) (.cond (.seq (.leaf []) (.leaf [])) (.leaf []))) (.seq (.leaf []) (.seq (.leaf []) (.leaf [])))))
theorem s43 {a0 a1 a2 : Value} {H : Heap} {R : Value → Heap → Prop} (h : c43 a0 a1 a2 H R) : CallsH Tryz.prog 43 #[a0, a1, a2] H R :=
  callsH_of_eq p43 (fn := Tryz.f43) (c := Tryz.f43.body.getD .skip) (args := [a0, a1, a2]) Tryz.func43 (by kernel_rfl) mixed (by kernel_rfl) (by kernel_rfl) (by kernel_rfl) h

/-- (*pub/multipart.Writer).CreateFormFile -/
def c44 (a0 a1 a2 : Value) (H : Heap) (R : Value → Heap → Prop) : Prop :=
  NewMap H fun x9 H =>
  CallsH Tryz.prog 75 #[a1, a2] H fun x13 H =>
  CallsH Tryz.prog 74 #[x9, (.string ⟨#[67, 111, 110, 116, 101, 110, 116, 45, 68, 105, 115, 112, 111, 115, 105, 116, 105, 111, 110]⟩), x13] H fun _ H =>
  CallsH Tryz.prog 74 #[x9, (.string ⟨#[67, 111, 110, 116, 101, 110, 116, 45, 84, 121, 112, 101]⟩), (.string ⟨#[97, 112, 112, 108, 105, 99, 97, 116, 105, 111, 110, 47, 111, 99, 116, 101, 116, 45, 115, 116, 114, 101, 97, 109]⟩)] H fun _ H =>
  CallsH Tryz.prog 32 #[a0, x9] H fun x19 H =>
  Get (extractV x19 0) fun x20 =>
  Get (extractV x19 1) fun x21 =>
  R (.tuple #[x20, x21]) H
def p44 : Plan := .seq (.leaf []) (.seq (.leaf []) (.seq (.leaf []) (.seq (.leaf []) (.seq (.leaf []) (.leaf [])))))
theorem s44 {a0 a1 a2 : Value} {H : Heap} {R : Value → Heap → Prop} (h : c44 a0 a1 a2 H R) : CallsH Tryz.prog 44 #[a0, a1, a2] H R :=
  callsH_of_eq p44 (fn := Tryz.f44) (c := Tryz.f44.body.getD .skip) (args := [a0, a1, a2]) Tryz.func44 (by kernel_rfl) mixed (by kernel_rfl) (by kernel_rfl) (by kernel_rfl) h

/-- (*pub/multipart.Writer).CreateFormField -/
def c73 (a0 a1 : Value) (H : Heap) (R : Value → Heap → Prop) : Prop :=
  NewMap H fun x7 H =>
  CallsH Tryz.prog 97 #[a1] H fun x10 H =>
  Get (strV .add (.string ⟨#[102, 111, 114, 109, 45, 100, 97, 116, 97, 59, 32, 110, 97, 109, 101, 61, 34]⟩) x10) fun x11 =>
  Get (strV .add x11 (.string ⟨#[34]⟩)) fun x12 =>
  CallsH Tryz.prog 74 #[x7, (.string ⟨#[67, 111, 110, 116, 101, 110, 116, 45, 68, 105, 115, 112, 111, 115, 105, 116, 105, 111, 110]⟩), x12] H fun _ H =>
  CallsH Tryz.prog 32 #[a0, x7] H fun x16 H =>
  Get (extractV x16 0) fun x17 =>
  Get (extractV x16 1) fun x18 =>
  R (.tuple #[x17, x18]) H
def p73 : Plan := .seq (.leaf []) (.seq (.leaf []) (.seq (.leaf []) (.seq (.leaf []) (.leaf []))))
theorem s73 {a0 a1 : Value} {H : Heap} {R : Value → Heap → Prop} (h : c73 a0 a1 H R) : CallsH Tryz.prog 73 #[a0, a1] H R :=
  callsH_of_eq p73 (fn := Tryz.f73) (c := Tryz.f73.body.getD .skip) (args := [a0, a1]) Tryz.func73 (by kernel_rfl) mixed (by kernel_rfl) (by kernel_rfl) (by kernel_rfl) h

/-- (pub/textproto.MIMEHeader).Set -/
def c74 (a0 a1 a2 : Value) (H : Heap) (R : Value → Heap → Prop) : Prop :=
  CallsH Tryz.prog 98 #[a1] H fun x8 H =>
  Get (Instr.fill (fun j => some (j * 1, 1)) ((Array.range (1 * 1)).map ((#[(.string ⟨#[]⟩)] : Array Value)[· % 1]!)) [(0, a2)]) fun cs => NewSl cs 9 1 H fun x10 H =>
  ExecV Tryz.prog (do Instr.mapUpdate 106 a0 x8 x10; pure undef) H fun u H =>
  R (.tuple #[]) H
def p74 : Plan := .leaf []
theorem s74 {a0 a1 a2 : Value} {H : Heap} {R : Value → Heap → Prop} (h : c74 a0 a1 a2 H R) : CallsH Tryz.prog 74 #[a0, a1, a2] H R :=
  callsH_of_eq p74 (fn := Tryz.f74) (c := Tryz.f74.body.getD .skip) (args := [a0, a1, a2]) Tryz.func74 (by kernel_rfl) mixed (by kernel_rfl) (by kernel_rfl) (by kernel_rfl) h

/-- pub/multipart.FileContentDisposition -/
def c75 (a0 a1 : Value) (H : Heap) (R : Value → Heap → Prop) : Prop :=
  CallsH Tryz.prog 97 #[a0] H fun x6 H =>
  Get (strV .add (.string ⟨#[102, 111, 114, 109, 45, 100, 97, 116, 97, 59, 32, 110, 97, 109, 101, 61, 34]⟩) x6) fun x7 =>
  Get (strV .add x7 (.string ⟨#[34, 59, 32, 102, 105, 108, 101, 110, 97, 109, 101, 61, 34]⟩)) fun x8 =>
  CallsH Tryz.prog 97 #[a1] H fun x10 H =>
  Get (strV .add x8 x10) fun x11 =>
  Get (strV .add x11 (.string ⟨#[34]⟩)) fun x12 =>
  R x12 H
def p75 : Plan := .seq (.leaf []) (.seq (.leaf []) (.leaf []))
theorem s75 {a0 a1 : Value} {H : Heap} {R : Value → Heap → Prop} (h : c75 a0 a1 H R) : CallsH Tryz.prog 75 #[a0, a1] H R :=
  callsH_of_eq p75 (fn := Tryz.f75) (c := Tryz.f75.body.getD .skip) (args := [a0, a1]) Tryz.func75 (by kernel_rfl) mixed (by kernel_rfl) (by kernel_rfl) (by kernel_rfl) h

/-- pub/multipart.escapeQuotes -/
def c97 (a0 : Value) (H : Heap) (R : Value → Heap → Prop) : Prop :=
  Loop [(.slice none 0 0), (.int .i64 0)] H fun K1 vs2 H =>
  Get (lenStrV a0) fun x7 =>
  Get (arithV .lss .i64 (nth vs2 1) x7) fun x8 =>
  Br x8 (
  Join (fun K3 =>
  Get (strIndexV a0 (nth vs2 1)) fun x13 =>
  Join (fun K4 =>
  Get (arithV .eql .u8 x13 (.int .u8 92)) fun x21 =>
  Br x21 (
  K4 [x21] H) (
  Get (arithV .eql .u8 x13 (.int .u8 34)) fun x22 =>
  K4 [x22] H)) fun vs5 H =>
  Br (nth vs5 0) (
  Get (strIndexV a0 (nth vs2 1)) fun x26 =>
  Get (Instr.fill (fun j => some (j * 1, 1)) ((Array.range (2 * 1)).map ((#[(.int .u8 0)] : Array Value)[· % 1]!)) [(0, (.int .u8 92)), (1, x26)]) fun cs => NewSl cs 5 2 H fun x27 H =>
  Append 5 1 1 #[(.int .u8 0)] (nth vs2 0) x27 H fun x28 H =>
  K3 [x28] H) (
  Get (arithV .eql .u8 x13 (.int .u8 13)) fun x30 =>
  Br x30 (
  Append 5 1 1 #[(.int .u8 0)] (nth vs2 0) (.string ⟨#[37, 48, 68]⟩) H fun x32 H =>
  K3 [x32] H) (
  Get (arithV .eql .u8 x13 (.int .u8 10)) fun x34 =>
  Br x34 (
  Append 5 1 1 #[(.int .u8 0)] (nth vs2 0) (.string ⟨#[37, 48, 65]⟩) H fun x36 H =>
  K3 [x36] H) (
  Get (strIndexV a0 (nth vs2 1)) fun x17 =>
  Get (Instr.fill (fun j => some (j * 1, 1)) ((Array.range (1 * 1)).map ((#[(.int .u8 0)] : Array Value)[· % 1]!)) [(0, x17)]) fun cs => NewSl cs 5 1 H fun x18 H =>
  Append 5 1 1 #[(.int .u8 0)] (nth vs2 0) x18 H fun x19 H =>
  K3 [x19] H)))) fun vs6 H =>
  Get (arithV .add .i64 (nth vs2 1) (.int .i64 1)) fun x10 =>
  K1 [(nth vs6 0), x10] H) (
  Get (bytesV (nth vs2 0) H) fun x38 =>
  R x38 H)
def p97 : Plan := .seq (.leaf []) (.seq (.leaf []) (.seq (.seq (.leaf []) (.block (.loop [3, 4] (.seq (.seq (.leaf []) (.cond (.leaf []) (.leaf []))) (.join [3] (.block (.seq (.leaf []) (.block (.join [20] (.seq (.leaf []) (.cond (.leaf []) (.leaf []))) (.cond (.leaf []) (.seq (.leaf []) (.cond (.leaf []) (.seq (.leaf []) (.cond (.leaf []) (.leaf [])))))))))) (.leaf [])))))) (.seq (.leaf []) (.leaf []))))
theorem s97 {a0 : Value} {H : Heap} {R : Value → Heap → Prop} (h : c97 a0 H R) : CallsH Tryz.prog 97 #[a0] H R :=
  callsH_of_eq p97 (fn := Tryz.f97) (c := Tryz.f97.body.getD .skip) (args := [a0]) Tryz.func97 (by kernel_rfl) mixed (by kernel_rfl) (by kernel_rfl) (by kernel_rfl) h

/-- pub/textproto.CanonicalMIMEHeaderKey -/
def c98 (a0 : Value) (H : Heap) (R : Value → Heap → Prop) : Prop :=
  Loop [a0, (.bool true), (.int .i64 0)] H fun K1 vs2 H =>
  Get (lenStrV (nth vs2 0)) fun x8 =>
  Get (arithV .lss .i64 (nth vs2 2) x8) fun x9 =>
  Br x9 (
  Get (strIndexV (nth vs2 0) (nth vs2 2)) fun x14 =>
  CallsH Tryz.prog 119 #[x14] H fun x16 H =>
  Get (unV .not x16) fun x17 =>
  Br x17 (
  R (nth vs2 0) H) (
  Join (fun K3 =>
  Br (nth vs2 1) (
  Get (arithV .leq .u8 (.int .u8 97) x14) fun x22 =>
  Get (pickV (.bool true) x22 (.bool false)) fun x23 =>
  Br x23 (
  Get (arithV .leq .u8 x14 (.int .u8 122)) fun x26 =>
  Get (pickV (.bool true) x26 (.bool false)) fun x27 =>
  K3 [x27] H) (
  Get (pickV (.bool false) undef (.bool false)) fun x27_1 =>
  K3 [x27_1] H)) (
  Get (pickV (.bool false) undef (.bool false)) fun x23_1 =>
  Br x23_1 (
  Get (arithV .leq .u8 x14 (.int .u8 122)) fun x26_1 =>
  Get (pickV (.bool true) x26_1 (.bool false)) fun x27_2 =>
  K3 [x27_2] H) (
  Get (pickV (.bool false) undef (.bool false)) fun x27_3 =>
  K3 [x27_3] H))) fun vs4 H =>
  Br (nth vs4 0) (
  ToBytes 5 (nth vs2 0) H fun x30 H =>
  CallsH Tryz.prog 120 #[x30] H fun x31 H =>
  Get (extractV x31 0) fun x32 =>
  Get (extractV x31 1) fun _ =>
  R x32 H) (
  Join (fun K5 =>
  Get (unV .not (nth vs2 1)) fun x36 =>
  Br x36 (
  Get (arithV .leq .u8 (.int .u8 65) x14) fun x39 =>
  Get (pickV (.bool true) x39 (.bool false)) fun x40 =>
  Br x40 (
  Get (arithV .leq .u8 x14 (.int .u8 90)) fun x43 =>
  Get (pickV (.bool true) x43 (.bool false)) fun x44 =>
  K5 [x44] H) (
  Get (pickV (.bool false) undef (.bool false)) fun x44_1 =>
  K5 [x44_1] H)) (
  Get (pickV (.bool false) undef (.bool false)) fun x40_1 =>
  Br x40_1 (
  Get (arithV .leq .u8 x14 (.int .u8 90)) fun x43_1 =>
  Get (pickV (.bool true) x43_1 (.bool false)) fun x44_2 =>
  K5 [x44_2] H) (
  Get (pickV (.bool false) undef (.bool false)) fun x44_3 =>
  K5 [x44_3] H))) fun vs6 H =>
  Br (nth vs6 0) (
  ToBytes 5 (nth vs2 0) H fun x47 H =>
  CallsH Tryz.prog 120 #[x47] H fun x48 H =>
  Get (extractV x48 0) fun x49 =>
  Get (extractV x48 1) fun _ =>
  R x49 H) (
  Get (arithV .eql .u8 x14 (.int .u8 45)) fun x53 =>
  Get (arithV .add .i64 (nth vs2 2) (.int .i64 1)) fun x11 =>
  K1 [(nth vs2 0), x53, x11] H)))) (
  R (nth vs2 0) H)
def p98 : Plan := .seq (.leaf []) (.seq (.leaf []) (.seq (.seq (.leaf []) (.block (.loop [0, 3, 4] (.seq (.seq (.leaf []) (.cond (.leaf []) (.leaf []))) (.seq (.block (.seq (.leaf []) (.seq (.seq (.leaf []) (.cond (.seq (.leaf []) (.leaf [])) (.leaf []))) (.seq (.join [27] (.leaf []) (.cond (.seq (.leaf []) (.seq (.leaf []) (.leaf []))) (.leaf []))) (.seq (.join [44] (.leaf []) (.cond (.seq (.leaf []) (.seq (.leaf []) (.leaf []))) (.leaf []))) (.leaf [])))))) (.leaf [])))))) (.seq (.leaf []) (.leaf []))))
theorem s98 {a0 : Value} {H : Heap} {R : Value → Heap → Prop} (h : c98 a0 H R) : CallsH Tryz.prog 98 #[a0] H R :=
  callsH_of_eq p98 (fn := Tryz.f98) (c := Tryz.f98.body.getD .skip) (args := [a0]) Tryz.func98 (by kernel_rfl) mixed (by kernel_rfl) (by kernel_rfl) (by kernel_rfl) h

/-- impl.Form -/
def c14 (a0 a1 : Value) (H : Heap) (R : Value → Heap → Prop) : Prop :=
  New (.cells #[(.slice none 0 0), (.int .i64 0), (.int .i8 0)] 55 (0, 0)) H fun x5 H =>
  Get (some (Value.iface 58 x5)) fun x11 =>
  CallsH Tryz.prog 30 #[x11] H fun x12 H =>
  CallsH Tryz.prog 31 #[x12, a0] H fun x15 H =>
  Get (nilV2 .neq .nilIface x15) fun x16 =>
  Br x16 (
  R (.slice none 0 0) H) (
  Get (lenV a1) fun x18 =>
  Loop [(.int .i64 0)] H fun K1 vs2 H =>
  Get (arithV .lss .i64 (nth vs2 0) x18) fun x20 =>
  Br x20 (
  Join (fun K3 =>
  Get (elemAddrV 3 a1 (nth vs2 0)) fun x21 =>
  Get (loadNV 3 x21 H) fun x22 =>
  New (.cells #[(.string ⟨#[]⟩), (.string ⟨#[]⟩), (.slice none 0 0)] 80 (0, 0)) H fun x8 H =>
  Get (storeNV 3 x8 x22 H) fun H =>
  Get (fieldAddrV 1 x8) fun x23 =>
  Get (load1V x23 H) fun x24 =>
  Get (strV .eql x24 (.string ⟨#[]⟩)) fun x25 =>
  Br x25 (
  Get (fieldAddrV 0 x8) fun x27 =>
  Get (load1V x27 H) fun x28 =>
  Get (fieldAddrV 2 x8) fun x29 =>
  Get (load1V x29 H) fun x30 =>
  Get (bytesV x30 H) fun x31 =>
  CallsH Tryz.prog 43 #[x12, x28, x31] H fun _ H =>
  K3 [] H) (
  Get (fieldAddrV 0 x8) fun x35 =>
  Get (load1V x35 H) fun x36 =>
  Get (fieldAddrV 1 x8) fun x37 =>
  Get (load1V x37 H) fun x38 =>
  CallsH Tryz.prog 44 #[x12, x36, x38] H fun x39 H =>
  Get (extractV x39 0) fun x40 =>
  Get (extractV x39 1) fun x41 =>
  Get (nilV2 .eql .nilIface x41) fun x43 =>
  Br x43 (
  Get (fieldAddrV 2 x8) fun x46 =>
  Get (load1V x46 H) fun x47 =>
  Get (Instr.fill (fun j => some (j * 1, 1)) ((Array.range (0 * 1)).map ((#[(.int .u8 0)] : Array Value)[· % 1]!)) []) fun cs => NewSl cs 5 0 H fun x45 H =>
  (load1V x46 H = some x47 ∧ True) ∧
  Append 5 1 1 #[(.int .u8 0)] x45 x47 H fun x48 H =>
  Get (nilV (.func (.method "Write") #[x40] #[])) fun _ =>
  Invoke Tryz.prog "Write" x40 #[x48] H fun _ H =>
  K3 [] H) (
  K3 [] H))) fun _ H =>
  Get (arithV .add .i64 (nth vs2 0) (.int .i64 1)) fun x53 =>
  K1 [x53] H) (
  CallsH Tryz.prog 35 #[x12] H fun _ H =>
  CallsH Tryz.prog 34 #[x5] H fun x56 H =>
  R x56 H))
def p14 : Plan := .seq (.leaf []) (.seq (.leaf []) (.seq (.leaf []) (.seq (.seq (.leaf []) (.cond (.seq (.leaf []) (.leaf [])) (.leaf []))) (.seq (.seq (.leaf []) (.block (.loop [19] (.seq (.leaf []) (.seq (.cond (.leaf []) (.leaf [])) (.join [] (.block (.seq (.leaf []) (.seq (.seq (.leaf []) (.cond (.seq (.leaf []) (.leaf [])) (.leaf []))) (.seq (.leaf []) (.seq (.leaf []) (.cond (.leaf [0, 2, 3, 1, 4, 5, 6, 7, 8]) (.leaf []))))))) (.leaf []))))))) (.seq (.leaf []) (.seq (.leaf []) (.leaf [])))))))
theorem s14 {a0 a1 : Value} {H : Heap} {R : Value → Heap → Prop} (h : c14 a0 a1 H R) : CallsH Tryz.prog 14 #[a0, a1] H R :=
  callsH_of_eq p14 (fn := Tryz.f14) (c := Tryz.f14.body.getD .skip) (args := [a0, a1]) Tryz.func14 (by kernel_rfl) mixed (by kernel_rfl) (by kernel_rfl) (by kernel_rfl) h

end Go.Cps

/-
  impl.header: a list of headers made a map.
  Conditions: the keys are different; each has a value.
-/
namespace Go.Cps
open Go Go.Proofs

theorem OwnS.strsAt {D : List Nat} {H : Heap} {g : Nat} {v : Value} {l : List (List UInt8)} (h : OwnS 1 9 StrR D H (some g) v l) : ∃ c, v = .slice (some ⟨g, 0, none⟩) l.length c ∧ StrsAt H g 0 c l := by
  obtain ⟨cells, c, rfl, hg, hc, hl, hgD, he⟩ := h
  refine ⟨c, rfl, cells, hg, hl, by omega, fun j hj => ?_⟩
  obtain ⟨vs, g1, g2, g3⟩ := he j hj
  have := g3 0 (by omega)
  rw [show vs = [strVal l[j]] from g2] at this
  rw [Nat.zero_add, List.getElem?_eq_getElem hj]
  simpa using this

/-- an entry that is not there yet, put -/
theorem putNew_ok {T : TypeId} (hT : Tryz.prog.underlying T = some (.map 9 88)) {H : Heap} {m N g c : Nat} {E : List Ent} {k : List UInt8} {vs : List (List UInt8)} (hE : Ents H m N E) (hg : getE k (E.map Ent.pair) = none) (hs : StrsAt H g 0 c vs) (hgE : ∀ e ∈ E, e.b ≠ g) (hN : vs.length ≤ N) :
    ∃ H', Ents H' m N (E ++ [⟨k, g, 0, c, vs⟩]) ∧ Frm [m] H H' ∧ H'.size = H.size ∧ ∀ K : Value → Heap → Prop, ExecV Tryz.prog (do Instr.mapUpdate T (.map (some m)) (strVal k) (.slice (some ⟨g, 0, none⟩) vs.length c); pure undef) H K = K undef H' := by
  obtain ⟨H2, hm2, f2, z2, hex⟩ := update_of hT (k := k) (v := .slice (some ⟨g, 0, none⟩) vs.length c) hE.map
  obtain ⟨_, hs2⟩ := getE_none hg
  have hne : ∀ {b o c' l}, StrsAt H b o c' l → b ≠ m := fun {b o c' l} hst hh => by
    obtain ⟨cs, hcs, _⟩ := hst
    obtain ⟨es, c, hm0, _⟩ := hE.map
    rw [hh, hm0] at hcs
    cases hcs
  refine ⟨H2, ⟨?_, fun e he => ?_, ?_, ?_⟩, f2, z2, hex⟩
  · rw [hs2] at hm2; simpa [Ent.pair] using hm2
  · rcases List.mem_append.1 he with he | he
    · exact (hE.strs e he).frm f2 (by simpa using hne (hE.strs e he))
    · rw [List.mem_singleton] at he
      subst he
      exact hs.frm f2 (by simpa using hne hs)
  · rw [List.pairwise_append]
    refine ⟨hE.apart, by simp, fun e he e' he' => ?_⟩
    rw [List.mem_singleton] at he'
    subst he'
    exact .inl (hgE e he)
  · intro e he
    rcases List.mem_append.1 he with he | he
    · exact hE.few e he
    · rw [List.mem_singleton] at he; subst he; exact hN

theorem getE_absent {k : List UInt8} : ∀ {E : List Ent}, (∀ e ∈ E, e.key ≠ k) → getE k (E.map Ent.pair) = none
  | [], _ => rfl
  | e :: r, h => by
    simp only [List.map_cons, getE]
    rw [if_neg (by exact h e (by simp)), getE_absent fun e' he' => h e' (by simp [he'])]

/-- a loaded struct, kept in a block of its own -/
theorem local2 {T : TypeId} {z1 z2 a b : Value} {H : Heap} {K : Value → Heap → Prop} (h1 : isOne a = true) (h2 : isOne b = true)
    (hK : ∀ H', H'[H.size]? = some (.cells #[a, b] T (0, 0)) → Frm [] H H' → H'.size = H.size + 1 → K (.pointer (some ⟨H.size, 0, none⟩)) H') :
    New (.cells #[z1, z2] T (0, 0)) H fun x5 H => Get (storeNV 2 x5 (.agg #[a, b]) H) fun H => K x5 H := by
  have hp := push_same H (.cells #[z1, z2] T (0, 0))
  have f0 : Frm [] H (H.push (.cells #[z1, z2] T (0, 0))) := Frm.push _ _ _
  have z0 : (H.push (.cells #[z1, z2] T (0, 0))).size = H.size + 1 := by simp
  simp only [New]
  generalize H.push (.cells #[z1, z2] T (0, 0)) = H0 at *
  rw [storeNV_of (vs := #[a, b]) (n := 2) hp rfl rfl (by simp [h1, h2]), Get_some]
  refine hK _ (upd_same (lt_of_some hp)) ⟨by simp; omega, fun k hk _ => ?_⟩ (by simpa using z0)
  rw [upd_ne (by omega)]
  exact f0.same k hk (by simp)

theorem header_ok {D : List Nat} {H : Heap} {v : Value} {hd : List Hdr} (hv : HeadsV D H v hd) (hne : ∀ p ∈ hd, p.2 ≠ [] ∧ p.2.length < 2 ^ 30) (hk : (hd.map (·.1)).Nodup) (hl : hd.length < 2 ^ 30) :
    CallsH Tryz.prog 33 #[v] H fun x H' => ∃ m N E, x = .map (some m) ∧ Ents H' m N E ∧ E.map Ent.hd = hd ∧ Frm [] H H' ∧ (∀ x ∈ Ents.blks m E, H.size ≤ x) ∧ N = 2 ^ 30 := by
  apply s33
  simp only [c33, NewMap, hv.len, Get_some]
  have f1 : Frm [] H (H.push (.map #[] 0)) := Frm.push _ _ _
  have hm1 := mapAt_new H
  have z1 : (H.push (.map #[] 0)).size = H.size + 1 := by simp
  generalize H.push (.map #[] 0) = H1 at *
  refine ⟨fun μ vs H2 => ∃ (i : Nat) (E : List Ent), vs = [.int .i64 i] ∧ μ = hd.length - i ∧ i ≤ hd.length ∧ Ents H2 H.size (2 ^ 30) E ∧ E.map Ent.hd = hd.take i ∧ Frm [] H H2 ∧ ∀ x ∈ Ents.blks H.size E, H.size ≤ x,
    ⟨_, 0, [], rfl, rfl, Nat.zero_le _, ⟨hm1, by simp, List.Pairwise.nil, by simp⟩, by simp, f1, by simp [Ents.blks]⟩, ?_⟩
  rintro μ vs H2 ⟨i, E, rfl, rfl, hi, hE, hhd, f2, hbk⟩
  have dd : ∀ a b : Nat, decide ((a : Int) < (b : Int)) = decide (a < b) := fun a b => by simp
  simp only [Fld_ptr, add_mk, Nat.zero_add, List.getElem?_toArray, List.getElem?_cons_succ, List.getElem?_cons_zero, Get_some, Br_true, Br_false, nth_zero, nth_one, nth_two, extractV_tuple, fieldAddrV_ptr, nilV_ptr, load1V_ptr, pickV_bool, unV_not, lenV_slice, capV_slice, arithV_add, arithV_sub, arithV_eql, arithV_neq, arithV_lss, arithV_leq, arithV_gtr, arithV_geq, intConvV_int, dd]
  refine Br_intro (fun hlt => ?_) (fun hlt => ?_)
  · have hlt' : i < hd.length := by simpa using hlt
    have hv2 := hv.frm headR_ok f2 (by simp)
    obtain ⟨a, cs, ha, hlo, hcl, ⟨y, hcs, hy⟩, _⟩ := hv2.elem hlt'
    subst hcs
    simp only [ha, Get_some, hlo]
    refine local2 (K := fun x5 H => _) rfl hy.isOne fun H3 hb3 f3 z3 => ?_
    have hE3 := hE.frm f3 (by simp)
    simp only [Fld_ptr, add_mk, Nat.zero_add, List.getElem?_toArray, List.getElem?_cons_succ, List.getElem?_cons_zero, Get_some, Br_true, Br_false, nth_zero, nth_one, nth_two, extractV_tuple, fieldAddrV_ptr, nilV_ptr, load1V_ptr, pickV_bool, unV_not, lenV_slice, capV_slice, cellH_of hb3]
    have habs : getE hd[i].1 (E.map Ent.pair) = none := getE_absent fun e he => by
      intro hke
      have hm : e.hd ∈ hd.take i := by rw [← hhd]; exact List.mem_map.2 ⟨e, he, rfl⟩
      obtain ⟨j, hj, hje⟩ := List.getElem_of_mem hm
      simp only [List.length_take] at hj
      rw [List.getElem_take] at hje
      have hn := List.pairwise_iff_getElem.1 hk j i (by simp; omega) (by simpa using hlt') (by omega)
      apply hn
      rw [List.getElem_map, List.getElem_map, hje, ← hke]
      rfl
    rw [lookup_of und66 hE3.map, habs]
    simp only [Option.getD_none]
    obtain ⟨hne1, hne2⟩ := hne hd[i] (List.getElem_mem hlt')
    have hy3 : StrsV D H3 y hd[i].2 := hy.frm strR_ok f3 (by simp)
    refine ⟨⟨by rw [cellH_of hb3]; rfl, by rw [cellH_of hb3]; rfl, trivial⟩, ?_⟩
    refine append_copy (D' := []) hy3 hne1 (by omega) (by simp) fun g w H4 hw f4 hg z4 => ?_
    refine ⟨⟨by rw [cellH_of (f4.get hb3 (by simp))]; rfl, trivial⟩, ?_⟩
    obtain ⟨c, rfl, hst⟩ := hw.strsAt
    have hE4 := hE3.frm f4 (by simp)
    obtain ⟨H5, hE5, f5, z5, hex⟩ := putNew_ok und66 hE4 habs hst (fun e he => by
      have := hE3.lt e.b (by simp only [Ents.blks, List.mem_cons, List.mem_map]; exact .inr ⟨e, he, rfl⟩)
      omega) (by omega : _ ≤ 2 ^ 30)
    rw [hex]
    have e1 : IntKind.i64.wrap ((i : Int) + 1) = ((i + 1 : Nat) : Int) := by rw [wrap_i64 (by omega) (by omega)]; omega
    simp only [arithV_add, arithV_sub, arithV_eql, arithV_neq, arithV_lss, arithV_leq, arithV_gtr, arithV_geq, intConvV_int, Fld_ptr, add_mk, Nat.zero_add, List.getElem?_toArray, List.getElem?_cons_succ, List.getElem?_cons_zero, Get_some, Br_true, Br_false, nth_zero, nth_one, nth_two, extractV_tuple, fieldAddrV_ptr, nilV_ptr, load1V_ptr, pickV_bool, unV_not, lenV_slice, capV_slice, e1]
    refine ⟨_, by omega, i + 1, _, rfl, rfl, hlt', hE5, ?_, ?_, ?_⟩
    · rw [List.map_append, hhd, List.take_succ_eq_append_getElem hlt']
      rfl
    · exact ((f2.trans f3).trans f4).up f5 (fun x hx => by rw [List.mem_singleton] at hx; subst hx; exact .inr (Nat.le_refl _))
    · intro x hx
      simp only [Ents.blks, List.map_append, List.mem_cons, List.mem_append, List.map_cons, List.map_nil, List.not_mem_nil, or_false] at hx
      rcases hx with h | h | h
      · omega
      · exact hbk x (by simp only [Ents.blks, List.mem_cons]; exact .inr h)
      · have h1 := f2.size; have h2 := f3.size; rw [h, hg]; omega
  · have : i = hd.length := by simp at hlt; omega
    subst this
    rw [List.take_length] at hhd
    exact ⟨_, _, E, rfl, hE, hhd, f2, hbk, rfl⟩
end Go.Cps

/-
  spec.Same and what it calls: two lists of parts compared.
  Conditions: none.
-/
namespace Go.Cps
open Go Go.Proofs

theorem dec_lt (a b : Nat) : decide ((a : Int) < (b : Int)) = decide (a < b) := by simp
theorem inc_i64 {i : Nat} (h : i < 2 ^ 62) : IntKind.i64.wrap ((i : Int) + 1) = ((i + 1 : Nat) : Int) := by rw [wrap_i64 (by omega) (by omega)]; omega
theorem neq_nat (a b : Nat) : (((a : Nat) : Int) != ((b : Nat) : Int)) = decide (a ≠ b) := by
  rw [Bool.eq_iff_iff]
  simp only [bne_iff_ne, ne_eq, decide_eq_true_eq]
  omega
theorem strV_eql' (a b : List UInt8) : strV .eql (strVal a) (strVal b) = some (.bool (decide (a = b))) := by
  rw [strVal, strVal, strV_eql, toList_mk, toList_mk]
  congr 2
  rw [Bool.eq_iff_iff]
  simp
theorem strV_neq' (a b : List UInt8) : strV .neq (strVal a) (strVal b) = some (.bool (decide (a ≠ b))) := by
  show some (Value.bool !((⟨a.toArray⟩ : ByteArray).toList == (⟨b.toArray⟩ : ByteArray).toList)) = _
  rw [toList_mk, toList_mk]
  congr 2
  rw [Bool.eq_iff_iff]
  simp

theorem take_succ_eq {α : Type} {a b : List α} {i : Nat} (ha : i < a.length) (hb : i < b.length) (h : a.take i = b.take i) (he : a[i] = b[i]) : a.take (i + 1) = b.take (i + 1) := by
  rw [List.take_succ_eq_append_getElem ha, List.take_succ_eq_append_getElem hb, h, he]
theorem ne_of_get {α : Type} {a b : List α} {i : Nat} (ha : i < a.length) (hb : i < b.length) (h : a[i] ≠ b[i]) : a ≠ b := by
  rintro rfl
  exact h rfl

/-- slices.Equal of strings -/
theorem equalStrs_ok {D D' : List Nat} {H : Heap} {v w : Value} {a b : List (List UInt8)} (ha : StrsV D H v a) (hb : StrsV D' H w b) (hl : a.length < 2 ^ 60) : CallsH Tryz.prog 53 #[v, w] H fun x H' => x = .bool (decide (a = b)) ∧ H' = H := by
  apply s53
  simp only [c53, ha.len, hb.len, Fld_ptr, add_mk, Nat.zero_add, List.getElem?_toArray, List.getElem?_cons_succ, List.getElem?_cons_zero, Get_some, Br_true, Br_false, nth_zero, nth_one, nth_two, extractV_tuple, fieldAddrV_ptr, nilV_ptr, load1V_ptr, pickV_bool, unV_not, lenV_slice, capV_slice, arithV_add, arithV_sub, arithV_eql, arithV_neq, arithV_lss, arithV_leq, arithV_gtr, arithV_geq, intConvV_int, neq_nat]
  refine Br_intro (fun hne => ⟨?_, trivial⟩) (fun heq => ?_)
  · have : a ≠ b := by rintro rfl; simp at hne
    rw [decide_eq_false this]
  · have hlen : a.length = b.length := by simpa using heq
    refine ⟨fun μ vs H' => ∃ i : Nat, vs = [.int .i64 i] ∧ μ = a.length - i ∧ i ≤ a.length ∧ H' = H ∧ a.take i = b.take i, ⟨_, 0, rfl, rfl, Nat.zero_le _, rfl, by simp⟩, ?_⟩
    rintro μ vs H ⟨i, rfl, rfl, hi, rfl, ht⟩
    simp only [Fld_ptr, add_mk, Nat.zero_add, List.getElem?_toArray, List.getElem?_cons_succ, List.getElem?_cons_zero, Get_some, Br_true, Br_false, nth_zero, nth_one, nth_two, extractV_tuple, fieldAddrV_ptr, nilV_ptr, load1V_ptr, pickV_bool, unV_not, lenV_slice, capV_slice, arithV_add, arithV_sub, arithV_eql, arithV_neq, arithV_lss, arithV_leq, arithV_gtr, arithV_geq, intConvV_int, dec_lt]
    refine Br_intro (fun hlt => ?_) (fun hlt => ?_)
    · have hlt' : i < a.length := by simpa using hlt
      obtain ⟨p, hp, hcp⟩ := strs_elem ha hlt'
      obtain ⟨q, hq, hcq⟩ := strs_elem hb (j := i) (by omega)
      simp only [hp, hq, Fld_ptr, add_mk, Nat.zero_add, List.getElem?_toArray, List.getElem?_cons_succ, List.getElem?_cons_zero, Get_some, Br_true, Br_false, nth_zero, nth_one, nth_two, extractV_tuple, fieldAddrV_ptr, nilV_ptr, load1V_ptr, pickV_bool, unV_not, lenV_slice, capV_slice, hcp, hcq, strV_neq']
      refine Br_intro (fun hne => ⟨?_, trivial⟩) (fun he => ?_)
      · rw [decide_eq_false (ne_of_get hlt' (by omega) (by simpa using hne))]
      · simp only [inc_i64 (show i < 2 ^ 62 by omega)]
        exact ⟨_, by omega, i + 1, rfl, rfl, hlt', trivial, take_succ_eq hlt' (by omega) ht (by simpa using he)⟩
    · have hi' : i = a.length := by simp at hlt; omega
      subst hi'
      rw [List.take_length, hlen, List.take_length] at ht
      rw [decide_eq_true ht]
      exact ⟨rfl, trivial⟩

/-- slices.EqualFunc of slices of pairs of cells, out of a comparison that tells equals apart -/
theorem equalFunc_core {α : Type} [DecidableEq α] {R : List Nat → Heap → α → List Value → Prop} (hR : RelOk R) {T : TypeId} {f : Nat} {z1 z2 : Value} {D D' : List Nat} {H : Heap} {v w : Value} {a b : List α} (ha : SlV 2 R D H v a) (hb : SlV 2 R D' H w b) (hl : a.length < 2 ^ 60) (hbody : hasBody Tryz.prog f = true)
    (hf : ∀ x ∈ a, ∀ y ∈ b, ∀ (us vs : List Value) (H1 : Heap), Frm [] H H1 → us.length = 2 → vs.length = 2 → R D H1 x us → R D' H1 y vs → CallsH Tryz.prog f #[.agg us.toArray, .agg vs.toArray] H1 fun r H2 => r = .bool (decide (x = y)) ∧ Frm [] H1 H2) (R0 : Value → Heap → Prop) (hK : ∀ H', Frm [] H H' → R0 (.bool (decide (a = b))) H') :
    Get (lenV v) fun x11 =>
    Get (lenV w) fun x13 =>
    Get (arithV .neq .i64 x11 x13) fun x14 =>
    Br x14 (
    R0 (.bool false) H) (
    Get (lenV v) fun x16 =>
    Loop [(.int .i64 0)] H fun K1 vs2 H =>
    Get (arithV .lss .i64 (nth vs2 0) x16) fun x18 =>
    Br x18 (
    Get (elemAddrV 2 v (nth vs2 0)) fun x20 =>
    Get (loadNV 2 x20 H) fun x21 =>
    New (.cells #[z1, z2] T (0, 0)) H fun x8 H =>
    Get (storeNV 2 x8 x21 H) fun H =>
    Get (elemAddrV 2 w (nth vs2 0)) fun x24 =>
    Get (loadNV 2 x24 H) fun x25 =>
    New (.cells #[z1, z2] T (0, 0)) H fun x9 H =>
    Get (storeNV 2 x9 x25 H) fun H =>
    Get (loadNV 2 x8 H) fun x27 =>
    Get (loadNV 2 x9 H) fun x28 =>
    CallV Tryz.prog (.func (.func f) #[] #[]) #[x27, x28] H fun x29 H =>
    Get (unV .not x29) fun x30 =>
    Br x30 (
    R0 (.bool false) H) (
    Get (arithV .add .i64 (nth vs2 0) (.int .i64 1)) fun x31 =>
    K1 [x31] H)) (
    R0 (.bool true) H)) := by
  simp only [ha.len, hb.len, Fld_ptr, add_mk, Nat.zero_add, List.getElem?_toArray, List.getElem?_cons_succ, List.getElem?_cons_zero, Get_some, Br_true, Br_false, nth_zero, nth_one, nth_two, extractV_tuple, fieldAddrV_ptr, nilV_ptr, load1V_ptr, pickV_bool, unV_not, lenV_slice, capV_slice, arithV_add, arithV_sub, arithV_eql, arithV_neq, arithV_lss, arithV_leq, arithV_gtr, arithV_geq, intConvV_int, neq_nat]
  refine Br_intro (fun hne => ?_) (fun heq => ?_)
  · have : a ≠ b := by rintro rfl; simp at hne
    rw [← decide_eq_false this]
    exact hK H (Frm.refl _ _)
  · have hlen : a.length = b.length := by simpa using heq
    refine ⟨fun μ vs H' => ∃ i : Nat, vs = [.int .i64 i] ∧ μ = a.length - i ∧ i ≤ a.length ∧ Frm [] H H' ∧ a.take i = b.take i, ⟨_, 0, rfl, rfl, Nat.zero_le _, Frm.refl _ _, by simp⟩, ?_⟩
    rintro μ vs H1 ⟨i, rfl, rfl, hi, f1, ht⟩
    simp only [Fld_ptr, add_mk, Nat.zero_add, List.getElem?_toArray, List.getElem?_cons_succ, List.getElem?_cons_zero, Get_some, Br_true, Br_false, nth_zero, nth_one, nth_two, extractV_tuple, fieldAddrV_ptr, nilV_ptr, load1V_ptr, pickV_bool, unV_not, lenV_slice, capV_slice, arithV_add, arithV_sub, arithV_eql, arithV_neq, arithV_lss, arithV_leq, arithV_gtr, arithV_geq, intConvV_int, dec_lt]
    refine Br_intro (fun hlt => ?_) (fun hlt => ?_)
    · have hlt' : i < a.length := by simpa using hlt
      have hltb : i < b.length := by omega
      obtain ⟨p, us, hp, hlu, hul, hRu, _⟩ := (ha.frm hR f1 (by simp)).elem hlt'
      obtain ⟨u1, u2, rfl⟩ : ∃ u1 u2, us = [u1, u2] := by
        match us, hul with
        | [u1, u2], _ => exact ⟨u1, u2, rfl⟩
      simp only [hp, Get_some, hlu]
      have o1 := hR.one hRu
      refine local2 (K := fun x8 H => _) (o1 u1 (by simp)) (o1 u2 (by simp)) fun H2 hb2 f2 z2 => ?_
      obtain ⟨q, ws, hq, hlw, hwl, hRw, _⟩ := (hb.frm hR (f1.trans f2) (by simp)).elem hltb
      obtain ⟨w1, w2, rfl⟩ : ∃ w1 w2, ws = [w1, w2] := by
        match ws, hwl with
        | [w1, w2], _ => exact ⟨w1, w2, rfl⟩
      simp only [hq, Get_some, hlw]
      have o2 := hR.one hRw
      refine local2 (K := fun x8 H => _) (o2 w1 (by simp)) (o2 w2 (by simp)) fun H3 hb3 f3 z3 => ?_
      have hb2' := f3.get hb2 (by simp)
      simp only [loadNV_of (n := 2) hb2' rfl, loadNV_of (n := 2) hb3 rfl, Get_some]
      refine ⟨f, #[], #[], rfl, hbody, ?_⟩
      have f13 := (f1.trans f2).trans f3
      refine (hf a[i] (List.getElem_mem hlt') b[i] (List.getElem_mem hltb) [u1, u2] [w1, w2] H3 f13 rfl rfl (hR.frm hRu (f2.trans f3) (by simp)) (hR.frm hRw f3 (by simp))).mono ?_
      rintro r H4 ⟨rfl, f4⟩
      simp only [Fld_ptr, add_mk, Nat.zero_add, List.getElem?_toArray, List.getElem?_cons_succ, List.getElem?_cons_zero, Get_some, Br_true, Br_false, nth_zero, nth_one, nth_two, extractV_tuple, fieldAddrV_ptr, nilV_ptr, load1V_ptr, pickV_bool, unV_not, lenV_slice, capV_slice]
      refine Br_intro (fun hne => ?_) (fun he => ?_)
      · have : a ≠ b := ne_of_get hlt' hltb (by simpa using hne)
        rw [← decide_eq_false this]
        exact hK _ (f13.trans f4)
      · simp only [arithV_add, arithV_sub, arithV_eql, arithV_neq, arithV_lss, arithV_leq, arithV_gtr, arithV_geq, intConvV_int, Fld_ptr, add_mk, Nat.zero_add, List.getElem?_toArray, List.getElem?_cons_succ, List.getElem?_cons_zero, Get_some, Br_true, Br_false, nth_zero, nth_one, nth_two, extractV_tuple, fieldAddrV_ptr, nilV_ptr, load1V_ptr, pickV_bool, unV_not, lenV_slice, capV_slice, inc_i64 (show i < 2 ^ 62 by omega)]
        exact ⟨_, by omega, i + 1, rfl, rfl, hlt', f13.trans f4, take_succ_eq hlt' hltb ht (by simpa using he)⟩
    · have hi' : i = a.length := by simp at hlt; omega
      subst hi'
      rw [List.take_length, hlen, List.take_length] at ht
      rw [← decide_eq_true ht]
      exact hK _ f1
end Go.Cps
