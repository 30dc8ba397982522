/-
  What the bodies of some functions of the program come to, at heap level, each proved of the program itself.
  Conditions: none. Written by gen.py.
-/
import Derived.Test.YtfajmapajpfocaaGreatDoorC11
set_option linter.all false
namespace Go.Cps
open Go Go.Proofs
set_option maxRecDepth 100000

/-- (*bytes.Buffer).Len -/
def c101 (a0 : Value) (H : Heap) (R : Value → Heap → Prop) : Prop :=
  Fld 0 a0 H fun x6 =>
  Get (lenV x6) fun x7 =>
  Fld 1 a0 H fun x11 =>
  Get (arithV .sub .i64 x7 x11) fun x12 =>
  R x12 H
def p101 : Plan := .seq (.leaf []) (.seq (.leaf [0, 1, 2, 3, 4, 5, 6, 7, 8, 9, 10]) (.leaf []))
theorem s101 {a0 : Value} {H : Heap} {R : Value → Heap → Prop} (h : c101 a0 H R) : CallsH Tryz.prog 101 #[a0] H R :=
  callsH_of_eq p101 (fn := Tryz.f101) (c := Tryz.f101.body.getD .skip) (args := [a0]) Tryz.func101 (by kernel_rfl) mixed (by kernel_rfl) (by kernel_rfl) (by kernel_rfl) h

/-- (*bytes.Buffer).Reset -/
def c102 (a0 : Value) (H : Heap) (R : Value → Heap → Prop) : Prop :=
  Fld 0 a0 H fun x6 =>
  Get (sliceV 1 x6 none (some (.int .i64 0)) none) fun x7 =>
  Get (nilV a0) fun x8 =>
  Get (fieldAddrV 0 x8) fun x9 =>
  Get (store1V x9 x7 H) fun H =>
  Get (nilV a0) fun x11 =>
  Get (fieldAddrV 1 x11) fun x12 =>
  Get (store1V x12 (.int .i64 0) H) fun H =>
  Get (nilV a0) fun x14 =>
  Get (fieldAddrV 2 x14) fun x15 =>
  Get (store1V x15 (.int .i8 0) H) fun H =>
  R (.tuple #[]) H
def p102 : Plan := .seq (.leaf []) (.seq (.leaf []) (.leaf []))
theorem s102 {a0 : Value} {H : Heap} {R : Value → Heap → Prop} (h : c102 a0 H R) : CallsH Tryz.prog 102 #[a0] H R :=
  callsH_of_eq p102 (fn := Tryz.f102) (c := Tryz.f102.body.getD .skip) (args := [a0]) Tryz.func102 (by kernel_rfl) mixed (by kernel_rfl) (by kernel_rfl) (by kernel_rfl) h

/-- (*bytes.Buffer).WriteString -/
def c62 (a0 a1 : Value) (H : Heap) (R : Value → Heap → Prop) : Prop :=
  Get (nilV a0) fun x9 =>
  Get (fieldAddrV 2 x9) fun x10 =>
  Get (store1V x10 (.int .i8 0) H) fun H =>
  Get (lenStrV a1) fun x14 =>
  CallsH Tryz.prog 83 #[a0, x14] H fun x15 H =>
  Get (extractV x15 0) fun x16 =>
  Get (extractV x15 1) fun x17 =>
  Join (fun K1 =>
  Get (unV .not x17) fun x19 =>
  Br x19 (
  Get (lenStrV a1) fun x22 =>
  CallsH Tryz.prog 84 #[a0, x22] H fun x23 H =>
  K1 [x23] H) (
  K1 [x16] H)) fun vs2 H =>
  Fld 0 a0 H fun x27 =>
  Get (sliceV 1 x27 (some (nth vs2 0)) none none) fun x29 =>
  Copy 1 x29 a1 H fun x31 H =>
  R (.tuple #[x31, .nilIface]) H
def p62 : Plan := .seq (.leaf []) (.seq (.leaf []) (.seq (.leaf []) (.join [6] (.seq (.leaf []) (.cond (.leaf []) (.leaf []))) (.seq (.leaf []) (.leaf [])))))
theorem s62 {a0 a1 : Value} {H : Heap} {R : Value → Heap → Prop} (h : c62 a0 a1 H R) : CallsH Tryz.prog 62 #[a0, a1] H R :=
  callsH_of_eq p62 (fn := Tryz.f62) (c := Tryz.f62.body.getD .skip) (args := [a0, a1]) Tryz.func62 (by kernel_rfl) mixed (by kernel_rfl) (by kernel_rfl) (by kernel_rfl) h

/-- (*pub/multipart.part).close -/
def c61 (a0 : Value) (H : Heap) (R : Value → Heap → Prop) : Prop :=
  Get (nilV a0) fun x4 =>
  Get (fieldAddrV 1 x4) fun x5 =>
  Get (store1V x5 (.bool true) H) fun H =>
  Fld 2 a0 H fun x9 =>
  R x9 H
def p61 : Plan := .seq (.leaf []) (.seq (.leaf []) (.seq (.leaf []) (.leaf [])))
theorem s61 {a0 : Value} {H : Heap} {R : Value → Heap → Prop} (h : c61 a0 H R) : CallsH Tryz.prog 61 #[a0] H R :=
  callsH_of_eq p61 (fn := Tryz.f61) (c := Tryz.f61.body.getD .skip) (args := [a0]) Tryz.func61 (by kernel_rfl) mixed (by kernel_rfl) (by kernel_rfl) (by kernel_rfl) h

end Go.Cps
