/-
  A part of the proof: What the bodies of some functions of the program come to, at heap level, each proved of the program itself. Small functions over bytes for the quoted-printable reader: HasSuffix, TrimRightFunc, readHexByte. The quoted-printable encoding: tokens of a line, texts of lines; what a line is when it is trimmed. The quoted-printable reader's Read.
  Conditions: each contract's own.
-/
import Derived.Test.YtfajmapajpfocaaGreatDoorF4
import Derived.Test.YtfajmapajpfocaaGreatDoorF13
import Derived.Test.YtfajmapajpfocaaGreatDoorF16
import Derived.Test.YtfajmapajpfocaaGreatDoorF17
import Derived.Test.YtfajmapajpfocaaGreatDoorF18
set_option linter.all false
namespace Go.Cps
open Go Go.Proofs
set_option maxRecDepth 100000
def c27 (a0 a1 : Value) (H : Heap) (R : Value → Heap → Prop) : Prop :=
  CallsH Tryz.prog 38 #[a0] H fun x7 H =>
  CallsH Tryz.prog 37 #[x7, a1] H fun x9 H =>
  CallsH Tryz.prog 36 #[(.func (.func 59) #[x9] #[])] H fun x11 H =>
  Get (extractV x11 0) fun x12 =>
  Get (extractV x11 1) fun x13 =>
  R (.tuple #[x12, x13]) H
def p27 : Plan := .seq (.leaf []) (.seq (.leaf []) (.leaf []))
theorem s27 {a0 a1 : Value} {H : Heap} {R : Value → Heap → Prop} (h : c27 a0 a1 H R) : CallsH Tryz.prog 27 #[a0, a1] H R :=
  callsH_of_eq p27 (fn := Tryz.f27) (c := Tryz.f27.body.getD .skip) (args := [a0, a1]) Tryz.func27 (by kernel_rfl) mixed (by kernel_rfl) (by kernel_rfl) (by kernel_rfl) h
def c55 (a0 : Value) (H : Heap) (R : Value → Heap → Prop) : Prop :=
  Get (Instr.fill (fun j => some (j * 1, 1)) ((Array.range (2 * 1)).map ((#[(.int .u8 0)] : Array Value)[· % 1]!)) [(0, (.int .u8 13)), (1, (.int .u8 10))]) fun cs => NewSl cs 5 2 H fun x7 H =>
  MarkS x7 H fun x8 H =>
  CallsH Tryz.prog 42 #[a0, x8] H fun x9 H =>
  Get (arithV .lss .i64 x9 (.int .i64 0)) fun x11 =>
  Br x11 (
  R (.tuple #[(.string ⟨#[]⟩), (.slice none 0 0), (.bool false)]) H) (
  Get (sliceV 1 a0 none (some x9) none) fun x14 =>
  Get (bytesV x14 H) fun x15 =>
  Get (arithV .add .i64 x9 (.int .i64 2)) fun x18 =>
  Get (sliceV 1 a0 (some x18) none none) fun x19 =>
  R (.tuple #[x15, x19, (.bool true)]) H)
def p55 : Plan := .seq (.leaf []) (.seq (.leaf []) (.seq (.seq (.leaf []) (.cond (.seq (.leaf []) (.leaf [])) (.leaf []))) (.seq (.leaf [0, 1, 2, 3, 4, 5, 6, 7, 8, 9, 10]) (.leaf []))))
theorem s55 {a0 : Value} {H : Heap} {R : Value → Heap → Prop} (h : c55 a0 H R) : CallsH Tryz.prog 55 #[a0] H R :=
  callsH_of_eq p55 (fn := Tryz.f55) (c := Tryz.f55.body.getD .skip) (args := [a0]) Tryz.func55 (by kernel_rfl) mixed (by kernel_rfl) (by kernel_rfl) (by kernel_rfl) h
def c56 (a0 : Value) (H : Heap) (R : Value → Heap → Prop) : Prop :=
  Loop [(.slice none 0 0), (.int .i64 0), (.int .i64 0)] H fun K1 vs2 H =>
  Get (lenStrV a0) fun x11 =>
  Get (arithV .lss .i64 (nth vs2 2) x11) fun x12 =>
  Br x12 (
  Join (fun K3 =>
  Get (strIndexV a0 (nth vs2 2)) fun x17 =>
  Join (fun K4 =>
  Get (arithV .eql .u8 x17 (.int .u8 61)) fun x20 =>
  Br x20 (
  Get (lenStrV a0) fun x24 =>
  Get (arithV .sub .i64 x24 (.int .i64 1)) fun x25 =>
  Get (arithV .eql .i64 (nth vs2 2) x25) fun x26 =>
  Get (pickV (.bool true) x26 (.bool false)) fun x27 =>
  K4 [x27] H) (
  Get (pickV (.bool false) undef (.bool false)) fun x27_1 =>
  K4 [x27_1] H)) fun vs5 H =>
  Br (nth vs5 0) (
  Get (lenStrV a0) fun x30 =>
  Get (arithV .leq .i64 x30 (.int .i64 76)) fun x31 =>
  R (.tuple #[(nth vs2 0), (.bool true), x31]) H) (
  Get (arithV .eql .u8 x17 (.int .u8 61)) fun x34 =>
  Br x34 (
  Join (fun K6 =>
  Get (arithV .add .i64 (nth vs2 2) (.int .i64 2)) fun x36 =>
  Get (lenStrV a0) fun x38 =>
  Get (arithV .geq .i64 x36 x38) fun x39 =>
  Br x39 (
  Get (pickV (.bool true) (.bool true) undef) fun x47 =>
  Br x47 (
  Get (pickV (.bool true) (.bool true) undef) fun x55 =>
  K6 [x55] H) (
  Get (arithV .add .i64 (nth vs2 2) (.int .i64 2)) fun x51 =>
  Get (strIndexV a0 x51) fun x52 =>
  CallsH Tryz.prog 81 #[x52] H fun x53 H =>
  Get (arithV .lss .i64 x53 (.int .i64 0)) fun x54 =>
  Get (pickV (.bool false) (.bool true) x54) fun x55_1 =>
  K6 [x55_1] H)) (
  Get (arithV .add .i64 (nth vs2 2) (.int .i64 1)) fun x43 =>
  Get (strIndexV a0 x43) fun x44 =>
  CallsH Tryz.prog 81 #[x44] H fun x45 H =>
  Get (arithV .lss .i64 x45 (.int .i64 0)) fun x46 =>
  Get (pickV (.bool false) (.bool true) x46) fun x47_1 =>
  Br x47_1 (
  Get (pickV (.bool true) (.bool true) undef) fun x55_2 =>
  K6 [x55_2] H) (
  Get (arithV .add .i64 (nth vs2 2) (.int .i64 2)) fun x51_1 =>
  Get (strIndexV a0 x51_1) fun x52_1 =>
  CallsH Tryz.prog 81 #[x52_1] H fun x53_1 H =>
  Get (arithV .lss .i64 x53_1 (.int .i64 0)) fun x54_1 =>
  Get (pickV (.bool false) (.bool true) x54_1) fun x55_3 =>
  K6 [x55_3] H))) fun vs7 H =>
  Br (nth vs7 0) (
  R (.tuple #[(.slice none 0 0), (.bool false), (.bool false)]) H) (
  Get (arithV .add .i64 (nth vs2 2) (.int .i64 1)) fun x59 =>
  Get (strIndexV a0 x59) fun x60 =>
  CallsH Tryz.prog 81 #[x60] H fun x61 H =>
  Get (arithV .mul .i64 x61 (.int .i64 16)) fun x62 =>
  Get (arithV .add .i64 (nth vs2 2) (.int .i64 2)) fun x65 =>
  Get (strIndexV a0 x65) fun x66 =>
  CallsH Tryz.prog 81 #[x66] H fun x67 H =>
  Get (arithV .add .i64 x62 x67) fun x68 =>
  Get (intConvV .u8 x68) fun x69 =>
  Get (Instr.fill (fun j => some (j * 1, 1)) ((Array.range (1 * 1)).map ((#[(.int .u8 0)] : Array Value)[· % 1]!)) [(0, x69)]) fun cs => NewSl cs 5 1 H fun x70 H =>
  Append 5 1 1 #[(.int .u8 0)] (nth vs2 0) x70 H fun x71 H =>
  Get (arithV .add .i64 (nth vs2 2) (.int .i64 2)) fun x73 =>
  K3 [x71, (.int .i64 0), x73] H)) (
  Join (fun K8 =>
  Get (arithV .eql .u8 x17 (.int .u8 32)) fun x76 =>
  Br x76 (
  Get (pickV (.bool true) (.bool true) undef) fun x80 =>
  K8 [x80] H) (
  Get (arithV .eql .u8 x17 (.int .u8 9)) fun x79 =>
  Get (pickV (.bool false) (.bool true) x79) fun x80_1 =>
  K8 [x80_1] H)) fun vs9 H =>
  Br (nth vs9 0) (
  Get (Instr.fill (fun j => some (j * 1, 1)) ((Array.range (1 * 1)).map ((#[(.int .u8 0)] : Array Value)[· % 1]!)) [(0, x17)]) fun cs => NewSl cs 5 1 H fun x83 H =>
  Append 5 1 1 #[(.int .u8 0)] (nth vs2 0) x83 H fun x84 H =>
  Get (arithV .add .i64 (nth vs2 1) (.int .i64 1)) fun x86 =>
  K3 [x84, x86, (nth vs2 2)] H) (
  Join (fun K10 =>
  Get (arithV .gtr .u8 x17 (.int .u8 32)) fun x89 =>
  Br x89 (
  Get (arithV .leq .u8 x17 (.int .u8 126)) fun x92 =>
  Get (pickV (.bool true) x92 (.bool false)) fun x93 =>
  K10 [x93] H) (
  Get (pickV (.bool false) undef (.bool false)) fun x93_1 =>
  K10 [x93_1] H)) fun vs11 H =>
  Br (nth vs11 0) (
  Get (Instr.fill (fun j => some (j * 1, 1)) ((Array.range (1 * 1)).map ((#[(.int .u8 0)] : Array Value)[· % 1]!)) [(0, x17)]) fun cs => NewSl cs 5 1 H fun x96 H =>
  Append 5 1 1 #[(.int .u8 0)] (nth vs2 0) x96 H fun x97 H =>
  K3 [x97, (.int .i64 0), (nth vs2 2)] H) (
  R (.tuple #[(.slice none 0 0), (.bool false), (.bool false)]) H))))) fun vs12 H =>
  Get (arithV .add .i64 (nth vs12 2) (.int .i64 1)) fun x14 =>
  K1 [(nth vs12 0), (nth vs12 1), x14] H) (
  Get (lenV (nth vs2 0)) fun x100 =>
  Get (arithV .sub .i64 x100 (nth vs2 1)) fun x102 =>
  Get (sliceV 1 (nth vs2 0) none (some x102) none) fun x103 =>
  Get (lenStrV a0) fun x105 =>
  Get (arithV .leq .i64 x105 (.int .i64 76)) fun x106 =>
  R (.tuple #[x103, (.bool false), x106]) H)
def p56 : Plan := .seq (.leaf []) (.seq (.leaf []) (.seq (.leaf []) (.seq (.seq (.leaf []) (.block (.loop [5, 6, 7] (.seq (.seq (.leaf []) (.cond (.leaf []) (.leaf []))) (.join [5, 6, 7] (.block (.seq (.leaf []) (.block (.join [18] (.leaf []) (.cond (.seq (.leaf []) (.leaf [])) (.seq (.leaf []) (.cond (.seq (.join [55] (.leaf []) (.cond (.seq (.leaf []) (.leaf [])) (.leaf []))) (.seq (.leaf [0, 1, 2, 3, 4, 5, 6, 7, 8, 9, 10, 11, 12, 13, 14, 15, 16]) (.seq (.leaf []) (.leaf [])))) (.join [74] (.leaf []) (.cond (.seq (.leaf []) (.leaf [])) (.join [87] (.leaf []) (.cond (.seq (.leaf []) (.leaf [])) (.seq (.leaf []) (.leaf []))))))))))))) (.leaf [])))))) (.seq (.leaf []) (.leaf [])))))
theorem s56 {a0 : Value} {H : Heap} {R : Value → Heap → Prop} (h : c56 a0 H R) : CallsH Tryz.prog 56 #[a0] H R :=
  callsH_of_eq p56 (fn := Tryz.f56) (c := Tryz.f56.body.getD .skip) (args := [a0]) Tryz.func56 (by kernel_rfl) mixed (by kernel_rfl) (by kernel_rfl) (by kernel_rfl) h
def c147 (a0 : Value) (H : Heap) (R : Value → Heap → Prop) : Prop :=
  CallsH Tryz.prog 69 #[a0, (.int .i64 4096)] H fun x4 H =>
  R x4 H
def p147 : Plan := .seq (.leaf []) (.seq (.leaf []) (.leaf []))
theorem s147 {a0 : Value} {H : Heap} {R : Value → Heap → Prop} (h : c147 a0 H R) : CallsH Tryz.prog 147 #[a0] H R :=
  callsH_of_eq p147 (fn := Tryz.f147) (c := Tryz.f147.body.getD .skip) (args := [a0]) Tryz.func147 (by kernel_rfl) mixed (by kernel_rfl) (by kernel_rfl) (by kernel_rfl) h
def c232 (a0 a1 : Value) (H : Heap) (R : Value → Heap → Prop) : Prop :=
  Join (fun K1 =>
  Get (lenV a0) fun x6 =>
  Get (lenV a1) fun x8 =>
  Get (arithV .geq .i64 x6 x8) fun x9 =>
  Br x9 (
  Get (lenV a0) fun x13 =>
  Get (lenV a1) fun x15 =>
  Get (arithV .sub .i64 x13 x15) fun x16 =>
  Get (sliceV 1 a0 (some x16) none none) fun x17 =>
  CallsH Tryz.prog 82 #[x17, a1] H fun x19 H =>
  Get (pickV (.bool true) x19 (.bool false)) fun x20 =>
  K1 [x20] H) (
  Get (pickV (.bool false) undef (.bool false)) fun x20_1 =>
  K1 [x20_1] H)) fun vs2 H =>
  R (nth vs2 0) H
def p232 : Plan := .seq (.leaf []) (.join [4] (.leaf []) (.leaf []))
theorem s232 {a0 a1 : Value} {H : Heap} {R : Value → Heap → Prop} (h : c232 a0 a1 H R) : CallsH Tryz.prog 232 #[a0, a1] H R :=
  callsH_of_eq p232 (fn := Tryz.f232) (c := Tryz.f232.body.getD .skip) (args := [a0, a1]) Tryz.func232 (by kernel_rfl) mixed (by kernel_rfl) (by kernel_rfl) (by kernel_rfl) h
def c233 (a0 a1 : Value) (H : Heap) (R : Value → Heap → Prop) : Prop :=
  CallsH Tryz.prog 236 #[a0, a1, (.bool false)] H fun x10 H =>
  Join (fun K1 =>
  Join (fun K2 =>
  Get (arithV .geq .i64 x10 (.int .i64 0)) fun x12 =>
  Br x12 (
  Get (elemAddrV 1 a0 x10) fun x16 =>
  Get (load1V x16 H) fun x17 =>
  Get (arithV .geq .u8 x17 (.int .u8 128)) fun x18 =>
  Get (pickV (.bool true) x18 (.bool false)) fun x19 =>
  K2 [x19] H) (
  Get (pickV (.bool false) undef (.bool false)) fun x19_1 =>
  K2 [x19_1] H)) fun vs3 H =>
  Br (nth vs3 0) (
  Get (sliceV 1 a0 (some x10) none none) fun x23 =>
  CallsH Tryz.prog 187 #[x23] H fun x24 H =>
  Get (extractV x24 0) fun _ =>
  Get (extractV x24 1) fun x26 =>
  Get (arithV .add .i64 x10 x26) fun x29 =>
  K1 [x29] H) (
  Get (arithV .add .i64 x10 (.int .i64 1)) fun x31 =>
  K1 [x31] H)) fun vs4 H =>
  Get (sliceV 1 a0 (some (.int .i64 0)) (some (nth vs4 0)) none) fun x34 =>
  R x34 H
def p233 : Plan := .seq (.leaf []) (.seq (.leaf []) (.join [5] (.join [19] (.leaf []) (.cond (.seq (.leaf []) (.leaf [])) (.leaf []))) (.seq (.leaf []) (.leaf []))))
theorem s233 {a0 a1 : Value} {H : Heap} {R : Value → Heap → Prop} (h : c233 a0 a1 H R) : CallsH Tryz.prog 233 #[a0, a1] H R :=
  callsH_of_eq p233 (fn := Tryz.f233) (c := Tryz.f233.body.getD .skip) (args := [a0, a1]) Tryz.func233 (by kernel_rfl) mixed (by kernel_rfl) (by kernel_rfl) (by kernel_rfl) h
def c236 (a0 a1 a2 : Value) (H : Heap) (R : Value → Heap → Prop) : Prop :=
  Get (lenV a0) fun x11 =>
  Loop [x11] H fun K1 vs2 H =>
  Get (arithV .gtr .i64 (nth vs2 0) (.int .i64 0)) fun x13 =>
  Br x13 (
  Get (arithV .sub .i64 (nth vs2 0) (.int .i64 1)) fun x16 =>
  Get (elemAddrV 1 a0 x16) fun x17 =>
  Get (load1V x17 H) fun x18 =>
  Get (intConvV .i32 x18) fun x19 =>
  Join (fun K3 =>
  Get (arithV .geq .i32 x19 (.int .i32 128)) fun x21 =>
  Br x21 (
  Get (sliceV 1 a0 (some (.int .i64 0)) (some (nth vs2 0)) none) fun x25 =>
  CallsH Tryz.prog 238 #[x25] H fun x26 H =>
  Get (extractV x26 0) fun x27 =>
  Get (extractV x26 1) fun x28 =>
  K3 [x27, x28] H) (
  K3 [x19, (.int .i64 1)] H)) fun vs4 H =>
  Get (arithV .sub .i64 (nth vs2 0) (nth vs4 1)) fun x31 =>
  CallV Tryz.prog a1 #[(nth vs4 0)] H fun x34 H =>
  Get (boolEqV .eql x34 a2) fun x36 =>
  Br x36 (
  R x31 H) (
  K1 [x31] H)) (
  R (.int .i64 (-1)) H)
def p236 : Plan := .seq (.leaf []) (.seq (.seq (.leaf []) (.block (.loop [7] (.seq (.seq (.leaf []) (.cond (.leaf []) (.leaf []))) (.block (.seq (.leaf []) (.join [8, 9] (.seq (.leaf []) (.cond (.leaf []) (.leaf []))) (.seq (.leaf []) (.seq (.leaf []) (.cond (.seq (.leaf []) (.leaf [])) (.leaf []))))))))))) (.seq (.leaf []) (.leaf [])))
theorem s236 {a0 a1 a2 : Value} {H : Heap} {R : Value → Heap → Prop} (h : c236 a0 a1 a2 H R) : CallsH Tryz.prog 236 #[a0, a1, a2] H R :=
  callsH_of_eq p236 (fn := Tryz.f236) (c := Tryz.f236.body.getD .skip) (args := [a0, a1, a2]) Tryz.func236 (by kernel_rfl) mixed (by kernel_rfl) (by kernel_rfl) (by kernel_rfl) h
end Go.Cps
namespace Go.Cps
open Go Go.Proofs
theorem lit2 {c d : UInt8} {H : Heap} {K : Value → Heap → Prop} (h : ∀ H', IsBytes H' (.slice (some ⟨H.size, 0, none⟩) 2 2) [c, d] → Frm [] H H' → H'.size = H.size + 1 → K (.slice (some ⟨H.size, 0, none⟩) 2 2) H') :
    Get (Instr.fill (fun j => some (j * 1, 1)) ((Array.range (2 * 1)).map ((#[(.int .u8 0)] : Array Value)[· % 1]!)) [(0, byteV c), (1, byteV d)]) fun cs => NewSl cs 5 2 H fun x H => MarkS x H K := by
  have e0 : ((Array.range (2 * 1)).map ((#[(.int .u8 0)] : Array Value)[· % 1]!)) = #[.int .u8 0, .int .u8 0] := by kernel_rfl
  have e : Instr.fill (fun j => some (j * 1, 1)) ((Array.range (2 * 1)).map ((#[(.int .u8 0)] : Array Value)[· % 1]!)) [(0, byteV c), (1, byteV d)] = some #[byteV c, byteV d] := by
    rw [e0, fill_cons (off := 0) rfl rfl (by simp), fill_cons (off := 1) rfl rfl (by simp)]
    rfl
  rw [e, Q6, NewSl]
  refine ⟨_, _, _, #[byteV c, byteV d], 5, rfl, push_same _ _, ?_⟩
  have key : ∀ H', H' = (H.push (.cells #[byteV c, byteV d] 5 (0, 0))).setIfInBounds H.size (.cells #[byteV c, byteV d] 5 (2, 3)) → K (.slice (some ⟨H.size, 0, none⟩) 2 2) H' := by
    intro H' hH'
    have hb : H'[H.size]? = some (.cells #[byteV c, byteV d] 5 (2, 3)) := by
      rw [hH', Array.getElem?_setIfInBounds, if_pos rfl, if_pos (by simp)]
    refine h _ (.inl ⟨H.size, 0, 2, rfl, by simp, fun j hj => ?_⟩) ⟨by rw [hH']; simp, fun k hk _ => ?_⟩ (by rw [hH']; simp)
    · rw [cellH_of hb]
      have hj2 : j < 2 := hj
      match j, hj2 with
      | 0, _ => rfl
      | 1, _ => rfl
    · rw [hH', Array.getElem?_setIfInBounds_ne (by omega), Array.getElem?_push, if_neg (by omega)]
  exact key _ rfl
theorem row2 {c d : UInt8} {H : Heap} {K : Value → Heap → Prop} (h : ∀ H', IsBytes H' (.slice (some ⟨H.size, 0, none⟩) 2 2) [c, d] → Frm [] H H' → H'.size = H.size + 1 → K (.slice (some ⟨H.size, 0, none⟩) 2 2) H') :
    Get (Instr.fill (fun j => some (j * 1, 1)) ((Array.range (2 * 1)).map ((#[(.int .u8 0)] : Array Value)[· % 1]!)) [(0, byteV c), (1, byteV d)]) fun cs => NewSl cs 5 2 H K := by
  have e0 : ((Array.range (2 * 1)).map ((#[(.int .u8 0)] : Array Value)[· % 1]!)) = #[.int .u8 0, .int .u8 0] := by kernel_rfl
  have e : Instr.fill (fun j => some (j * 1, 1)) ((Array.range (2 * 1)).map ((#[(.int .u8 0)] : Array Value)[· % 1]!)) [(0, byteV c), (1, byteV d)] = some #[byteV c, byteV d] := by
    rw [e0, fill_cons (off := 0) rfl rfl (by simp), fill_cons (off := 1) rfl rfl (by simp)]
    rfl
  rw [e, Q6, NewSl]
  have hb := push_same H (.cells #[byteV c, byteV d] 5 (0, 0))
  refine h _ (.inl ⟨H.size, 0, 2, rfl, by simp, fun j hj => ?_⟩) (Frm.push _ _ _) (by simp)
  rw [cellH_of hb]
  have hj2 : j < 2 := hj
  match j, hj2 with
  | 0, _ => rfl
  | 1, _ => rfl
theorem IsBytes.from {H : Heap} {v : Value} {l : List UInt8} (h : IsBytes H v l) {n : Nat} (hn : n ≤ l.length) (k : IntKind) : ∃ y, sliceV 1 v (some (.int k n)) none none = some y ∧ IsBytes H y (l.drop n) ∧ isOne y = true ∧ ∀ b hi, Rng2 v b hi → Rng2 y b hi := by
  rcases h with ⟨b, o, c, rfl, hc, hcell⟩ | ⟨a, rfl, rfl⟩
  · have e := IsBytes.sub (lo := n) (hi := l.length) (.inl ⟨b, o, c, rfl, hc, hcell⟩) hn (Nat.le_refl _)
    rw [List.take_length] at e
    refine ⟨_, sliceV_lo hn k, by simpa [apply_ite] using e, rfl, fun b' hi ⟨o', n', c', he, h1, h2, h3⟩ => ?_⟩
    cases he
    by_cases hcn : c = n
    · rw [if_pos hcn]
      exact ⟨o, l.length - n, c - n, rfl, by omega, by omega, by omega⟩
    · rw [if_neg hcn]
      exact ⟨o + n * 1, l.length - n, c - n, by simp, by omega, by omega, by omega⟩
  · have : n = 0 := by simpa using hn
    subst this
    refine ⟨.slice a 0 0, ?_, .inr ⟨a, rfl, rfl⟩, rfl, fun b hi h => h⟩
    have := sliceV_lo (a := a) (n := 0) (c := 0) (size := 1) (lo := 0) (Nat.le_refl _) k
    rw [this]
    rfl
theorem hasSuffix_ok {v w : Value} {a b : List UInt8} {H : Heap} (ha : IsBytes H v a) (hb : IsBytes H w b) (hl : a.length < 2 ^ 40) (hbl : b.length < 2 ^ 40) :
    CallsH Tryz.prog 232 #[v, w] H fun x H' => x = .bool (b.isSuffixOf a) ∧ H' = H := by
  apply s232
  simp only [c232, ha.len, hb.len, Q0, Q1, Q2, Q3, Q4, Q5, Q6, Q7, Q8, Q9, Qa, Qb, Qc, Qd, Qe, Qf, Qg, Qh, Qi, Qj, Qr]
  refine Join_direct ?_
  by_cases hle : b.length ≤ a.length
  · have hd : decide ((a.length : Int) ≥ (b.length : Int)) = true := by simp; omega
    have e1 : IntKind.i64.wrap ((a.length : Int) - (b.length : Int)) = ((a.length - b.length : Nat) : Int) := by rw [wrap_i64 (by omega) (by omega)]; omega
    obtain ⟨y, hy, hyb, _⟩ := ha.from (n := a.length - b.length) (by omega) .i64
    simp only [hd, Q0, Q1, Q2, Q3, Q4, Q5, Q6, Q7, Q8, Q9, Qa, Qb, Qc, Qd, Qe, Qf, Qg, Qh, Qi, Qj, Qk, Ql, Qm, Qn, Qo, Qp, Qq, Qr, Qs, e1, hy]
    refine (equal_ok hyb hb).mono ?_
    rintro x H' ⟨rfl, rfl⟩
    simp only [Q0, Q1, Q2, Q3, Q4, Q5, Q6, Q7, Q8, Q9, Qa, Qb, Qc, Qd, Qe, Qf, Qg, Qh, Qi, Qj, if_true, and_true, Value.bool.injEq]
    rw [Bool.eq_iff_iff, beq_iff_eq, List.isSuffixOf_iff_suffix, List.suffix_iff_eq_drop]
    exact ⟨fun h => h.symm, fun h => h.symm⟩
  · have hd : decide ((a.length : Int) ≥ (b.length : Int)) = false := by simp; omega
    simp only [hd, Q0, Q1, Q2, Q3, Q4, Q5, Q6, Q7, Q8, Q9, Qa, Qb, Qc, Qd, Qe, Qf, Qg, Qh, Qi, Qj, Bool.false_eq_true, if_false, and_true, Value.bool.injEq]
    symm
    rw [← Bool.not_eq_true, List.isSuffixOf_iff_suffix]
    intro h
    exact hle h.length_le
def qws (c : UInt8) : Bool := c == 10 || c == 13 || c == 32 || c == 9
theorem isWs_ok {c : UInt8} {H : Heap} : CallsH Tryz.prog 234 #[.int .i32 c.toNat] H fun x H' => x = .bool (qws c) ∧ H' = H := by
  have hz : ∀ n : Nat, n < 256 → (((c.toNat : Nat) : Int) == (n : Int)) = (c == UInt8.ofNat n) := fun n hn => by
    rw [Bool.eq_iff_iff, beq_iff_eq, beq_iff_eq]
    constructor
    · intro h
      have : c.toNat = n := by omega
      rw [← this]; simp
    · intro h
      rw [h]
      simp [UInt8.toNat_ofNat']
      omega
  have h10 : (((c.toNat : Nat) : Int) == 10) = (c == UInt8.ofNat 10) := hz 10 (by omega)
  have h13 : (((c.toNat : Nat) : Int) == 13) = (c == UInt8.ofNat 13) := hz 13 (by omega)
  have h32 : (((c.toNat : Nat) : Int) == 32) = (c == UInt8.ofNat 32) := hz 32 (by omega)
  have h9 : (((c.toNat : Nat) : Int) == 9) = (c == UInt8.ofNat 9) := hz 9 (by omega)
  apply s234
  simp only [c234, Q0, Q1, Q2, Q3, Q4, Q5, Q6, Q7, Q8, Q9, Qa, Qb, Qc, Qd, Qe, Qf, Qg, Qh, Qi, Qj, Qk, Ql, Qm, Qn, Qo, Qp, Qq, Qr, Qs]
  refine Join_direct ?_
  rw [h10, h13, h32, h9]
  unfold qws
  refine Br_intro (fun g1 => ?_) (fun g1 => ?_)
  · simp only [Q0, Q1, Q2, Q3, Q4, Q5, Q6, Q7, Q8, Q9, Qa, Qb, Qc, Qd, Qe, Qf, Qg, Qh, Qi, Qj, g1]
    have : (c == 10) = true := g1
    simp [this]
  · have g1' : (c == 10) = false := g1
    refine Br_intro (fun g2 => ?_) (fun g2 => ?_)
    · simp only [Q0, Q1, Q2, Q3, Q4, Q5, Q6, Q7, Q8, Q9, Qa, Qb, Qc, Qd, Qe, Qf, Qg, Qh, Qi, Qj, g2]
      have : (c == 13) = true := g2
      simp [this]
    · have g2' : (c == 13) = false := g2
      refine Br_intro (fun g3 => ?_) (fun g3 => ?_)
      · simp only [Q0, Q1, Q2, Q3, Q4, Q5, Q6, Q7, Q8, Q9, Qa, Qb, Qc, Qd, Qe, Qf, Qg, Qh, Qi, Qj, g3]
        have : (c == 32) = true := g3
        simp [this]
      · have g3' : (c == 32) = false := g3
        simp only [Q0, Q1, Q2, Q3, Q4, Q5, Q6, Q7, Q8, Q9, Qa, Qb, Qc, Qd, Qe, Qf, Qg, Qh, Qi, Qj]
        refine Br_intro (fun g4 => ?_) (fun g4 => ?_)
        · have : (c == 9) = true := g4
          simp [this]
        · have : (c == 9) = false := g4
          simp [this, g1', g2', g3']
def TrimTo (l : List UInt8) (n : Nat) : Prop := n ≤ l.length ∧ (∀ j c, n ≤ j → l[j]? = some c → qws c = true) ∧ (n = 0 ∨ ∃ c, l[n - 1]? = some c ∧ qws c = false)
theorem lastIdx_ok {v : Value} {l : List UInt8} {H : Heap} (hv : IsBytes H v l) (hl : l.length < 2 ^ 40) (ha : ∀ c ∈ l, c.toNat < 128) :
    CallsH Tryz.prog 236 #[v, .func (.func 234) #[] #[], .bool false] H fun x H' => H' = H ∧ ∃ n, TrimTo l n ∧ x = .int .i64 ((n : Int) - 1) := by
  apply s236
  simp only [c236, hv.len, Q0, Q1, Q2, Q3, Q4, Q5, Q6, Q7, Q8, Q9, Qa, Qb, Qc, Qd, Qe, Qf, Qg, Qh, Qi, Qj]
  refine ⟨fun μ vs H1 => ∃ i : Nat, vs = [.int .i64 i] ∧ μ = i ∧ i ≤ l.length ∧ H1 = H ∧ ∀ j c, i ≤ j → l[j]? = some c → qws c = true, ⟨_, l.length, rfl, rfl, Nat.le_refl _, rfl, fun j c hj hc => by rw [List.getElem?_eq_none hj] at hc; cases hc⟩, ?_⟩
  rintro i vs H1 ⟨_, rfl, rfl, hi, rfl, hno⟩
  simp only [Q0, Q1, Q2, Q3, Q4, Q5, Q6, Q7, Q8, Q9, Qa, Qb, Qc, Qd, Qe, Qf, Qg, Qh, Qi, Qj, Qk, Ql, Qm, Qn, Qo, Qp, Qq, Qr, Qs]
  refine Br_intro (fun h0 => ?_) (fun h0 => ?_)
  · have h0' : 0 < i := by simp at h0; omega
    have e1 : IntKind.i64.wrap ((i : Int) - 1) = ((i - 1 : Nat) : Int) := by rw [wrap_i64 (by omega) (by omega)]; omega
    rcases hv with ⟨b, o, c, rfl, hc, hcell⟩ | ⟨a, rfl, rfl⟩
    · have hlt : i - 1 < l.length := by omega
      have hcl := hcell (i - 1) hlt
      rw [List.getElem?_eq_getElem hlt] at hcl
      have h128 := ha _ (List.getElem_mem hlt)
      have hws : ∀ j c, i - 1 < j → l[j]? = some c → qws c = true := fun j c hj => hno j c (by omega)
      generalize hcc : l[i - 1] = cc at *
      have e2 : IntKind.i32.wrap ((cc.toNat : Nat) : Int) = ((cc.toNat : Nat) : Int) := by
        unfold IntKind.wrap
        simp [IntKind.bits, IntKind.signed]
        omega
      have e3 : decide (((cc.toNat : Nat) : Int) ≥ 128) = false := by simp; omega
      rw [e1, elemAddr_of (by omega) (by omega)]
      simp only [Q0, Q1, Q2, Q3, Q4, Q5, Q6, Q7, Q8, Q9, Qa, Qb, Qc, Qd, Qe, Qf, Qg, Qh, Qi, Qj, Qk, Ql, Qm, Qn, Qo, Qp, Qq, Qr, Qs, Int.toNat_natCast, Nat.mul_one, hcl, Option.map_some, byteV, e2]
      refine Join_direct ?_
      simp only [Q0, Q1, Q2, Q3, Q4, Q5, Q6, Q7, Q8, Q9, Qa, Qb, Qc, Qd, Qe, Qf, Qg, Qh, Qi, Qj, Qk, Ql, Qm, Qn, Qo, Qp, Qq, Qr, Qs, e3, e1]
      refine ⟨234, #[], #[], rfl, by kernel_rfl, ?_⟩
      simp only [Array.empty_append, Array.append_empty]
      refine isWs_ok.mono ?_
      rintro x H2 ⟨rfl, rfl⟩
      have e4 : boolEqV .eql (.bool (qws cc)) (.bool false) = some (.bool (qws cc == false)) := rfl
      rw [e4, Q6]
      refine Br_intro (fun g => ?_) (fun g => ?_)
      · refine ⟨rfl, i, ⟨hi, hno, .inr ⟨cc, ?_, by simpa using g⟩⟩, ?_⟩
        · rw [List.getElem?_eq_getElem hlt, hcc]
        · congr 1; omega
      · refine ⟨_, by omega, i - 1, rfl, rfl, by omega, rfl, fun j c hj hjc => ?_⟩
        by_cases hji : j = i - 1
        · subst hji
          rw [List.getElem?_eq_getElem hlt, hcc] at hjc
          cases hjc
          simpa using g
        · exact hws j c (by omega) hjc
    · simp at hi; omega
  · have hi0 : i = 0 := by simp at h0; omega
    subst hi0
    exact ⟨trivial, 0, ⟨Nat.zero_le _, hno, .inl rfl⟩, rfl⟩
theorem trimRight_ok {b o c : Nat} {l : List UInt8} {H : Heap} (hv : IsBytes H (.slice (some ⟨b, o, none⟩) l.length c) l) (hc : l.length ≤ c) (hl : l.length < 2 ^ 40) (ha : ∀ c ∈ l, c.toNat < 128) :
    CallsH Tryz.prog 233 #[.slice (some ⟨b, o, none⟩) l.length c, .func (.func 234) #[] #[]] H fun x H' => H' = H ∧ ∃ n, TrimTo l n ∧ x = .slice (some ⟨b, o, none⟩) n c := by
  apply s233
  unfold c233
  refine (lastIdx_ok hv hl ha).mono ?_
  rintro x H1 ⟨rfl, n, hn, rfl⟩
  refine ⟨fun vs H2 => vs = [.int .i64 n] ∧ H2 = H1, ?_, ?_⟩
  · refine ⟨fun vs H2 => vs = [.bool false] ∧ H2 = H1, ?_, ?_⟩
    · simp only [Q0, Q1, Q2, Q3, Q4, Q5, Q6, Q7, Q8, Q9, Qa, Qb, Qc, Qd, Qe, Qf, Qg, Qh, Qi, Qj, Qk, Ql, Qm, Qn, Qo, Qp, Qq, Qr, Qs]
      refine Br_intro (fun g => ?_) (fun g => by simp)
      have g' : 0 < n := by simp at g; omega
      have hn1 := hn.1
      have hlt : n - 1 < l.length := by omega
      have hx : ∃ cc, cellH H1 ⟨b, o + (n - 1), none⟩ = some (byteV cc) ∧ cc ∈ l := by
        rcases hv with ⟨b', o', c', he, hc', hcell⟩ | ⟨a, he, hl0⟩
        · cases he
          have := hcell (n - 1) hlt
          rw [List.getElem?_eq_getElem hlt] at this
          exact ⟨_, this, List.getElem_mem hlt⟩
        · rw [hl0] at hlt; simp at hlt
      obtain ⟨cc, hcell, hmem⟩ := hx
      have h128 := ha _ hmem
      have e3 : decide (((cc.toNat : Nat) : Int) ≥ 128) = false := by simp; omega
      rw [elemAddr_of (by omega) (by omega)]
      have e4 : o + ((n : Int) - 1).toNat * 1 = o + (n - 1) := by omega
      simp only [Q0, Q1, Q2, Q3, Q4, Q5, Q6, Q7, Q8, Q9, Qa, Qb, Qc, Qd, Qe, Qf, Qg, Qh, Qi, Qj, Qk, Ql, Qm, Qn, Qo, Qp, Qq, Qr, Qs, e4, hcell, byteV, e3, if_true]
      simp
    · rintro _ H2 ⟨rfl, rfl⟩
      have e5 : IntKind.i64.wrap ((n : Int) - 1 + 1) = (n : Int) := by have := hn.1; rw [wrap_i64 (by omega) (by omega)]; omega
      simp only [Q0, Q1, Q2, Q3, Q4, Q5, Q6, Q7, Q8, Q9, Qa, Qb, Qc, Qd, Qe, Qf, Qg, Qh, Qi, Qj, Qk, Ql, Qm, Qn, Qo, Qp, Qq, Qr, Qs, e5]
      simp
  · rintro _ H2 ⟨rfl, rfl⟩
    have hn1 := hn.1
    have hs := sliceV_of (a := some ⟨b, o, none⟩) (n := l.length) (c := c) (size := 1) (lo := 0) (hi := n) (Nat.zero_le _) (by omega) .i64 .i64
    have e6 : (if c = 0 then (some ⟨b, o, none⟩ : Option Addr) else (some (⟨b, o, none⟩ : Addr)).map (·.add (0 * 1))) = some ⟨b, o, none⟩ := by
      split
      · rfl
      · simp
    rw [e6] at hs
    simp only [Nat.sub_zero] at hs
    have hs' : sliceV 1 (.slice (some ⟨b, o, none⟩) l.length c) (some (.int .i64 0)) (some (.int .i64 (n : Int))) none = some (.slice (some ⟨b, o, none⟩) n c) := hs
    simp only [Q0, Q1, Q2, Q3, Q4, Q5, Q6, Q7, Q8, Q9, Qa, Qb, Qc, Qd, Qe, Qf, Qg, Qh, Qi, Qj, hs']
    exact ⟨trivial, n, hn, rfl⟩
def hexv (c : UInt8) : Option Nat := if 48 ≤ c.toNat ∧ c.toNat ≤ 57 then some (c.toNat - 48) else if 65 ≤ c.toNat ∧ c.toNat ≤ 70 then some (c.toNat - 55) else none
theorem hexv_lt {c : UInt8} {x : Nat} (h : hexv c = some x) : x < 16 := by
  unfold hexv at h
  split at h
  · cases h; omega
  · split at h
    · cases h; omega
    · cases h
theorem fromHex_ok {c : UInt8} {x : Nat} {H : Heap} (h : hexv c = some x) : CallsH Tryz.prog 237 #[byteV c] H fun v H' => v = .tuple #[.int .u8 x, .nilIface] ∧ H' = H := by
  have hlt := c.toNat_lt
  apply s237
  simp only [c237, byteV, Q0, Q1, Q2, Q3, Q4, Q5, Q6, Q7, Q8, Q9, Qa, Qb, Qc, Qd, Qe, Qf, Qg, Qh, Qi, Qj, Qk, Ql, Qm, Qn, Qo, Qp, Qq, Qr, Qs]
  unfold hexv at h
  split at h
  · rename_i h1
    cases h
    refine Join_direct ?_
    have d1 : decide (((c.toNat : Nat) : Int) ≥ 48) = true := by simp; omega
    have d2 : decide (((c.toNat : Nat) : Int) ≤ 57) = true := by simp; omega
    have e : IntKind.u8.wrap (((c.toNat : Nat) : Int) - 48) = ((c.toNat - 48 : Nat) : Int) := by rw [wrap_u8 (by omega) (by omega)]; omega
    simp only [d1, d2, Q0, Q1, Q2, Q3, Q4, Q5, Q6, Q7, Q8, Q9, Qa, Qb, Qc, Qd, Qe, Qf, Qg, Qh, Qi, Qj, e, if_true]
    simp
  · rename_i h1
    split at h
    · rename_i h2
      cases h
      have d2 : decide (((c.toNat : Nat) : Int) ≤ 57) = false := by simp; omega
      have d1 : decide (((c.toNat : Nat) : Int) ≥ 48) = true := by simp; omega
      have d3 : decide (((c.toNat : Nat) : Int) ≥ 65) = true := by simp; omega
      have d4 : decide (((c.toNat : Nat) : Int) ≤ 70) = true := by simp; omega
      have e : IntKind.u8.wrap (((c.toNat : Nat) : Int) - 65) = ((c.toNat - 65 : Nat) : Int) := by rw [wrap_u8 (by omega) (by omega)]; omega
      have e' : IntKind.u8.wrap (((c.toNat - 65 : Nat) : Int) + 10) = ((c.toNat - 55 : Nat) : Int) := by rw [wrap_u8 (by omega) (by omega)]; omega
      refine Join_direct ?_
      simp only [d1, d2, Q0, Q1, Q2, Q3, Q4, Q5, Q6, Q7, Q8, Q9, Qa, Qb, Qc, Qd, Qe, Qf, Qg, Qh, Qi, Qj, if_true]
      refine Join_direct ?_
      simp only [d3, d4, Q0, Q1, Q2, Q3, Q4, Q5, Q6, Q7, Q8, Q9, Qa, Qb, Qc, Qd, Qe, Qf, Qg, Qh, Qi, Qj, if_true, e, e']
      simp
    · cases h
theorem hexcat : ∀ (x y : Fin 16), (BitVec.ofInt 8 ((x.val * 16 : Nat) : Int) ||| BitVec.ofInt 8 ((y.val : Nat) : Int)).toNat = x.val * 16 + y.val := by decide
theorem readHex_ok {v : Value} {a b : UInt8} {r : List UInt8} {x y : Nat} {H : Heap} (hv : IsBytes H v (a :: b :: r)) (hl : r.length < 2 ^ 40) (ha : hexv a = some x) (hb : hexv b = some y) :
    CallsH Tryz.prog 235 #[v] H fun z H' => z = .tuple #[byteV (UInt8.ofNat (x * 16 + y)), .nilIface] ∧ H' = H := by
  apply s235
  have d1 : decide ((((a :: b :: r).length : Nat) : Int) < 2) = false := by simp; omega
  simp only [c235, hv.len, Q0, Q1, Q2, Q3, Q4, Q5, Q6, Q7, Q8, Q9, Qa, Qb, Qc, Qd, Qe, Qf, Qg, Qh, Qi, Qj, Qk, Ql, Qm, Qn, Qo, Qp, Qq, Qr, Qs, d1]
  rcases hv with ⟨bb, o, c, rfl, hc, hcell⟩ | ⟨_, _, h⟩
  · have h0 := hcell 0 (by simp)
    have h1 := hcell 1 (by simp)
    simp only [List.getElem?_cons_zero, List.getElem?_cons_succ, Option.map_some, Nat.add_zero] at h0 h1
    rw [elemAddr_of (by omega) (by simp; omega)]
    simp only [Q0, Q1, Q2, Q3, Q4, Q5, Q6, Q7, Q8, Q9, Qa, Qb, Qc, Qd, Qe, Qf, Qg, Qh, Qi, Qj, Int.toNat_zero, Nat.zero_mul, Nat.add_zero, h0]
    refine (fromHex_ok ha).mono ?_
    rintro z H1 ⟨rfl, rfl⟩
    simp only [Q0, Q1, Q2, Q3, Q4, Q5, Q6, Q7, Q8, Q9, Qa, Qb, Qc, Qd, Qe, Qf, Qg, Qh, Qi, Qj, nilV2_neq_nil]
    rw [elemAddr_of (by omega) (by simp; omega)]
    have e1 : o + (1 : Int).toNat * 1 = o + 1 := by simp
    simp only [Q0, Q1, Q2, Q3, Q4, Q5, Q6, Q7, Q8, Q9, Qa, Qb, Qc, Qd, Qe, Qf, Qg, Qh, Qi, Qj, e1, h1]
    refine (fromHex_ok hb).mono ?_
    rintro z H2 ⟨rfl, rfl⟩
    have hx := hexv_lt ha
    have hy := hexv_lt hb
    have es : shiftV .shl .u8 (.int .u8 (x : Int)) (.int .u64 4) = some (.int .u8 ((x * 16 : Nat) : Int)) := by
      have : IntKind.u8.wrap ((x : Int) * 16) = ((x * 16 : Nat) : Int) := by rw [wrap_u8 (by omega) (by omega)]; omega
      simp only [shiftV]
      rw [if_pos (by simp)]
      simp only [Option.some.injEq, Value.int.injEq, true_and]
      rw [← this]
      rfl
    have eo : arithV .or .u8 (.int .u8 ((x * 16 : Nat) : Int)) (.int .u8 (y : Int)) = some (byteV (UInt8.ofNat (x * 16 + y))) := by
      have h2 := hexcat ⟨x, hx⟩ ⟨y, hy⟩
      have h3 : IntKind.u8.wrap (((x * 16 + y : Nat)) : Int) = ((x * 16 + y : Nat) : Int) := wrap_u8 (by omega) (by omega)
      have h4 : (UInt8.ofNat (x * 16 + y)).toNat = x * 16 + y := by simp; omega
      simp only [arithV, if_true, and_self, byteV, h4]
      show some (Value.int .u8 (IntKind.u8.wrap ((BitVec.ofInt 8 ((x * 16 : Nat) : Int) ||| BitVec.ofInt 8 ((y : Nat) : Int)).toNat : Int))) = _
      rw [h2, h3]
    simp only [Q0, Q1, Q2, Q3, Q4, Q5, Q6, Q7, Q8, Q9, Qa, Qb, Qc, Qd, Qe, Qf, Qg, Qh, Qi, Qj, nilV2_neq_nil, es, eo]
    simp
  · cases h
end Go.Cps
namespace Go.Cps
open Go Go.Proofs
def okB (c : UInt8) : Prop := c ≠ 61 ∧ (c = 9 ∨ c = 10 ∨ c = 13 ∨ (32 ≤ c.toNat ∧ c.toNat ≤ 126))
inductive Tok : List UInt8 → List UInt8 → Prop
  | nil : Tok [] []
  | lit (c : UInt8) (r d : List UInt8) : okB c → Tok r d → Tok (c :: r) (c :: d)
  | esc (a b : UInt8) (x y : Nat) (r d : List UInt8) : hexv a = some x → hexv b = some y → Tok r d → Tok (61 :: a :: b :: r) (UInt8.ofNat (x * 16 + y) :: d)
theorem Tok.app {a b : List UInt8} (h : Tok a b) : ∀ {c d : List UInt8}, Tok c d → Tok (a ++ c) (b ++ d) := by
  induction h with
  | nil => intro c d h; exact h
  | lit c r d hc _ ih => intro c' d' h; exact .lit c _ _ hc (ih h)
  | esc a b x y r d ha hb _ ih => intro c' d' h; exact .esc a b x y _ _ ha hb (ih h)
theorem hexv_ne {c : UInt8} {x : Nat} (h : hexv c = some x) : c ≠ 61 ∧ c ≠ 10 ∧ c ≠ 13 ∧ c ≠ 32 ∧ c ≠ 9 ∧ c.toNat < 128 := by
  have h1 : (48 ≤ c.toNat ∧ c.toNat ≤ 57) ∨ (65 ≤ c.toNat ∧ c.toNat ≤ 70) := by
    unfold hexv at h
    split at h
    · exact .inl ‹_›
    · split at h
      · exact .inr ‹_›
      · cases h
  have hn : ∀ n : Nat, n < 256 → c = UInt8.ofNat n → c.toNat = n := fun n hn e => by rw [e]; simp; omega
  refine ⟨fun e => ?_, fun e => ?_, fun e => ?_, fun e => ?_, fun e => ?_, by omega⟩
  · have := hn 61 (by omega) e; omega
  · have := hn 10 (by omega) e; omega
  · have := hn 13 (by omega) e; omega
  · have := hn 32 (by omega) e; omega
  · have := hn 9 (by omega) e; omega
theorem Tok.last {a b : List UInt8} (h : Tok a b) : a.getLast? ≠ some 61 := by
  induction h with
  | nil => simp
  | lit c r d hc h ih =>
    cases r with
    | nil => simpa using hc.1
    | cons e r => simpa using ih
  | esc a b x y r d ha hb h ih =>
    cases r with
    | nil => simpa using (hexv_ne hb).1
    | cons e r => simpa using ih
theorem Tok.small {a b : List UInt8} (h : Tok a b) : ∀ c ∈ a, c.toNat < 128 := by
  induction h with
  | nil => simp
  | lit c r d hc h ih =>
    intro e he
    rcases List.mem_cons.1 he with rfl | he
    · rcases hc.2 with rfl | rfl | rfl | h2
      · decide
      · decide
      · decide
      · omega
    · exact ih e he
  | esc a b x y r d ha hb h ih =>
    intro e he
    rcases List.mem_cons.1 he with rfl | he
    · decide
    · rcases List.mem_cons.1 he with rfl | he
      · exact (hexv_ne ha).2.2.2.2.2
      · rcases List.mem_cons.1 he with rfl | he
        · exact (hexv_ne hb).2.2.2.2.2
        · exact ih e he
def Blanks (q : List UInt8) : Prop := ∀ c ∈ q, c = 32 ∨ c = 9
def Clean (p : List UInt8) : Prop := ∀ c ∈ p, c ≠ 10 ∧ c ≠ 13
def Solid (p : List UInt8) : Prop := ∀ c, p.getLast? = some c → qws c = false
inductive QText : List UInt8 → List UInt8 → Prop
  | last (p q d : List UInt8) : Tok p d → Blanks q → Solid p → Clean p → (p ++ q).length ≤ 76 → QText (p ++ q) d
  | hard (p q d r D : List UInt8) : Tok p d → Blanks q → Solid p → Clean p → (p ++ q).length ≤ 76 → QText r D → QText (p ++ q ++ 13 :: 10 :: r) (d ++ 13 :: 10 :: D)
  | soft (p d r D : List UInt8) : Tok p d → Clean p → p.length ≤ 75 → QText r D → QText (p ++ 61 :: 13 :: 10 :: r) (d ++ D)
theorem Blanks.qws {q : List UInt8} (h : Blanks q) : ∀ c ∈ q, qws c = true := fun c hc => by
  rcases h c hc with rfl | rfl <;> decide
theorem Blanks.clean {q : List UInt8} (h : Blanks q) : Clean q := fun c hc => by
  rcases h c hc with rfl | rfl <;> decide
theorem nl?_none {l : List UInt8} (h : ∀ c ∈ l, c ≠ 10) : nl? l = none := by
  unfold nl?
  rw [List.findIdx?_eq_none_iff]
  intro c hc
  simpa using h c hc
theorem nl?_at {l r : List UInt8} (h : ∀ c ∈ l, c ≠ 10) : nl? (l ++ 10 :: r) = some l.length := by
  rw [nl?_append_none (nl?_none h)]
  simp [nl?, List.findIdx?_cons]
theorem lineLen_at {l r : List UInt8} (h : ∀ c ∈ l, c ≠ 10) : lineLen (l ++ 10 :: r) = l.length + 1 := by rw [lineLen, nl?_at h]
theorem lineLen_none {l : List UInt8} (h : ∀ c ∈ l, c ≠ 10) : lineLen l = l.length := by rw [lineLen, nl?_none h]
theorem TrimTo.eq {p q : List UInt8} {n : Nat} (h : TrimTo (p ++ q) n) (hq : ∀ c ∈ q, qws c = true) (hp : Solid p) : n = p.length := by
  obtain ⟨h1, h2, h3⟩ := h
  rcases Nat.lt_trichotomy n p.length with hlt | heq | hgt
  · exfalso
    have hpl : p.length - 1 < p.length := by omega
    have hl : p.getLast? = some (p[p.length - 1]) := by rw [List.getLast?_eq_getElem?, List.getElem?_eq_getElem hpl]
    have h4 := h2 (p.length - 1) p[p.length - 1] (by omega) (by rw [List.getElem?_append_left hpl, List.getElem?_eq_getElem hpl])
    rw [hp _ hl] at h4
    cases h4
  · exact heq
  · exfalso
    rcases h3 with h3 | ⟨c, hc, hw⟩
    · omega
    · rw [List.getElem?_append_right (by omega)] at hc
      have := hq c (List.mem_of_getElem? hc)
      rw [hw] at this
      cases this
theorem dropWhile_crlf (r : List UInt8) : (13 :: r).dropWhile lws = 13 :: r := by
  rw [List.dropWhile_cons_of_neg]
  decide
theorem solid_eq (p : List UInt8) : Solid (p ++ [61]) := by
  intro c hc
  rw [List.getLast?_append] at hc
  simp at hc
  subst hc
  decide
theorem suffix_last {l : List UInt8} {c : UInt8} : [c].isSuffixOf l = decide (l.getLast? = some c) := by
  rw [Bool.eq_iff_iff, List.isSuffixOf_iff_suffix, decide_eq_true_eq]
  constructor
  · rintro ⟨p, rfl⟩; simp
  · intro h
    obtain ⟨p, rfl⟩ := List.getLast?_eq_some_iff.1 h
    exact ⟨p, rfl⟩
theorem nlx {l r : List UInt8} (h : ∀ c ∈ l, c ≠ 10) : nl? (l ++ 10 :: r) = some l.length ∧ (l ++ 10 :: r).take (lineLen (l ++ 10 :: r)) = l ++ [10] ∧ (l ++ 10 :: r).drop (lineLen (l ++ 10 :: r)) = r := by
  have e : l ++ 10 :: r = (l ++ [10]) ++ r := by simp
  have hl : l.length + 1 = (l ++ [10]).length := by simp
  refine ⟨nl?_at h, ?_, ?_⟩
  · rw [lineLen_at h, e, hl, List.take_left]
  · rw [lineLen_at h, e, hl, List.drop_left]
theorem QText.line {R D : List UInt8} (h : QText R D) : ∃ P T, R.take (lineLen R) = P ++ T ∧ (∀ c ∈ T, qws c = true) ∧ Solid P ∧ (P ++ T).length ≤ 78 ∧ (∀ c ∈ P ++ T, c.toNat < 128) ∧
    ((nl? R = none ∧ R.drop (lineLen R) = [] ∧ Tok P D ∧ [10].isSuffixOf (P ++ T) = false ∧ P.getLast? ≠ some 61) ∨
     ((nl? R).isNone = false ∧ ∃ d D', Tok P d ∧ D = d ++ 13 :: 10 :: D' ∧ QText (R.drop (lineLen R)) D' ∧ [10].isSuffixOf (P ++ T) = true ∧ [13, 10].isSuffixOf (P ++ T) = true ∧ 2 ≤ T.length ∧ P.getLast? ≠ some 61) ∨
     ((nl? R).isNone = false ∧ ∃ p d D', P = p ++ [61] ∧ T = [13, 10] ∧ Tok p d ∧ D = d ++ D' ∧ QText (R.drop (lineLen R)) D')) := by
  have hb : ∀ {q : List UInt8}, Blanks q → ∀ c ∈ q, c.toNat < 128 := fun hq c hc => by
    rcases hq c hc with rfl | rfl <;> decide
  cases h with
  | last p q d ht hq hs hc hl =>
    have hn : ∀ c ∈ p ++ q, c ≠ 10 := fun c hm => by
      rcases List.mem_append.1 hm with h | h
      · exact (hc c h).1
      · exact (hq.clean c h).1
    refine ⟨p, q, by rw [lineLen_none hn, List.take_length], hq.qws, hs, by omega, fun c hm => ?_, .inl ⟨nl?_none hn, by rw [lineLen_none hn, List.drop_length], ht, ?_, ht.last⟩⟩
    · rcases List.mem_append.1 hm with h | h
      · exact ht.small c h
      · exact hb hq c h
    · rw [← Bool.not_eq_true, List.isSuffixOf_iff_suffix]
      rintro ⟨a, ha⟩
      exact hn 10 (by rw [← ha]; simp) rfl
  | hard p q d r D' ht hq hs hc hl hr =>
    have hn : ∀ c ∈ p ++ q ++ [13], c ≠ 10 := fun c hm => by
      rcases List.mem_append.1 hm with h | h
      · rcases List.mem_append.1 h with h | h
        · exact (hc c h).1
        · exact (hq.clean c h).1
      · simp at h; subst h; decide
    have e : p ++ q ++ 13 :: 10 :: r = (p ++ q ++ [13]) ++ 10 :: r := by simp
    obtain ⟨g1, g2, g3⟩ := nlx (r := r) hn
    rw [← e] at g1 g2 g3
    refine ⟨p, q ++ [13, 10], by rw [g2]; simp, fun c hm => ?_, hs, by simp at hl ⊢; omega, fun c hm => ?_, .inr (.inl ⟨by rw [g1]; rfl, d, D', ht, rfl, by rw [g3]; exact hr, ?_, ?_, by simp, ht.last⟩)⟩
    · rcases List.mem_append.1 hm with h | h
      · exact hq.qws c h
      · simp at h; rcases h with rfl | rfl <;> decide
    · rcases List.mem_append.1 hm with h | h
      · exact ht.small c h
      · rcases List.mem_append.1 h with h | h
        · exact hb hq c h
        · simp at h; rcases h with rfl | rfl <;> decide
    · rw [List.isSuffixOf_iff_suffix]; exact ⟨p ++ q ++ [13], by simp⟩
    · rw [List.isSuffixOf_iff_suffix]; exact ⟨p ++ q, by simp⟩
  | soft p d r D' ht hc hl hr =>
    have hn : ∀ c ∈ p ++ [61, 13], c ≠ 10 := fun c hm => by
      rcases List.mem_append.1 hm with h | h
      · exact (hc c h).1
      · simp at h; rcases h with rfl | rfl <;> decide
    have e : p ++ 61 :: 13 :: 10 :: r = (p ++ [61, 13]) ++ 10 :: r := by simp
    obtain ⟨g1, g2, g3⟩ := nlx (r := r) hn
    rw [← e] at g1 g2 g3
    refine ⟨p ++ [61], [13, 10], by rw [g2]; simp, fun c hm => ?_, solid_eq p, by simp; omega, fun c hm => ?_, .inr (.inr ⟨by rw [g1]; rfl, p, d, D', rfl, rfl, ht, rfl, by rw [g3]; exact hr⟩)⟩
    · simp at hm; rcases hm with rfl | rfl <;> decide
    · rcases List.mem_append.1 hm with h | h
      · rcases List.mem_append.1 h with h | h
        · exact ht.small c h
        · simp at h; subst h; decide
      · simp at h; rcases h with rfl | rfl <;> decide
end Go.Cps
namespace Go.Cps
open Go Go.Proofs
structure QR (e : REnv) (F : QF) (q : Nat) (t : QSt) (rerr : Bool) (lv : Value) (ln : List UInt8) (H : Heap) : Prop where
  qa : QAt e F t H
  hq : H[q]? = some (.cells #[.pointer (some ⟨F.b, 0, none⟩), e.er rerr, lv] 223 (0, 0))
  lb : IsBytes H lv ln
  lr : ln = [] ∨ Rng2 lv F.bf t.r
  one : isOne lv = true
  fin : rerr = true → t.ev = .eof ∧ t.x = [] ∧ t.rest = []
  dq : q ≠ F.b ∧ q ≠ F.bf ∧ e.B ≤ q ∧ q ∉ e.all ∧ blk e.S.v ≠ some q
def QRem (ln : List UInt8) (rerr : Bool) (rest D : List UInt8) : Prop := ∃ dl D', Tok ln dl ∧ D = dl ++ D' ∧ (rerr = true → rest = [] ∧ D' = []) ∧ (rerr = false → QText rest D')
theorem putAt_snoc : ∀ (vs : List Value) (cs : Array Value) (o : Nat) (v : Value), putAt cs o (vs ++ [v]) = (putAt cs o vs).setIfInBounds (o + vs.length) v
  | [], cs, o, v => rfl
  | u :: r, cs, o, v => by
    rw [List.cons_append, putAt, putAt, putAt_snoc r]
    congr 1
    simp; omega
theorem qstore {e : REnv} {F : QF} {q : Nat} {t : QSt} {c0 c1 c2 : Value} {H : Heap} {o : Nat} {v : Value} {K : Heap → Prop} (qa : QAt e F t H) (dq : q ≠ F.b ∧ q ≠ F.bf ∧ e.B ≤ q ∧ q ∉ e.all ∧ blk e.S.v ≠ some q)
    (hq : H[q]? = some (.cells #[c0, c1, c2] 223 (0, 0))) (ho : o < 3) (hv : isOne v = true) (hK : ∀ H', QAt e F t H' → H'[q]? = some (.cells ((#[c0, c1, c2] : Array Value).setIfInBounds o v) 223 (0, 0)) → Frm [q] H H' → H'.size = H.size → K H') :
    Get (store1V (.pointer (some ⟨q, o, none⟩)) v H) K := by
  refine Store_of hq (by simpa using ho) hv fun H1 hb1 f1 z1 => ?_
  refine hK H1 (qa.frm f1 fun x hx => ?_) hb1 f1 z1
  rw [List.mem_singleton] at hx
  subst hx
  exact dq
theorem QAt.low {e : REnv} {F : QF} {t : QSt} {H : Heap} (h : QAt e F t H) : F.b < H.size ∧ F.bf < H.size := ⟨lt_of_some h.hb, lt_of_some h.hbf⟩
theorem appendBreak {e : REnv} {F : QF} {t : QSt} {H : Heap} {o n c : Nat} {ln : List UInt8} {x : Value} {K : Value → Heap → Prop} (qa : QAt e F t H) (hl : IsBytes H (.slice (some ⟨F.bf, o, none⟩) n c) ln) (hn : n = ln.length) (ho : o + n + 2 ≤ t.r) (hc : n + 2 ≤ c) (hx : IsBytes H x [13, 10])
    (hK : ∀ t' H', QAt e F t' H' → t'.r = t.r → t'.rest = t.rest → t'.ev = t.ev → t'.x = t.x → IsBytes H' (.slice (some ⟨F.bf, o, none⟩) (n + 2) c) (ln ++ [13, 10]) → Frm [F.bf] H H' → H'.size = H.size → K (.slice (some ⟨F.bf, o, none⟩) (n + 2) c) H') :
    Append 5 1 1 #[(.int .u8 0)] (.slice (some ⟨F.bf, o, none⟩) n c) x H K := by
  obtain ⟨h1, h2⟩ := hx.elems (m := 2) (by simp)
  refine ⟨_, n, c, 2, _, rfl, h2, h1, .inl ⟨hc, ?_⟩⟩
  have hrw := qa.rw
  have hw4 := qa.w4
  have hbl := qa.blen
  have hst : storeRow 1 n (some ⟨F.bf, o, none⟩) ((([13, 10] : List UInt8).take 2).map byteV) H = some (upd H F.bf (.cells (putAt (t.buf.map byteV).toArray (o + n) (([13, 10] : List UInt8).map byteV)) F.tbf (0, 0))) := by
    have := stores_upd (([13, 10] : List UInt8).map byteV) H F.bf (o + n) 0 _ F.tbf qa.hbf (by simp; omega) (fun v hv => by
      obtain ⟨b, _, rfl⟩ := List.mem_map.1 hv; rfl)
    simp only [storeRow, Q1, Nat.mul_one]
    exact this
  rw [hst, Q6]
  rw [putAt_spl (by simp; omega)]
  generalize hH1 : upd H F.bf _ = H1
  have f1 : Frm [F.bf] H H1 := by rw [← hH1]; exact Frm.upd _ (by simp)
  have z1 : H1.size = H.size := by rw [← hH1]; simp
  have hbf1 : H1[F.bf]? = some (.cells ((spl t.buf (o + n) [13, 10]).map byteV).toArray F.tbf (0, 0)) := by rw [← hH1]; exact upd_same (lt_of_some qa.hbf)
  have hsl : (spl t.buf (o + n) [13, 10]).length = t.buf.length := spl_length (by simp; omega)
  have qa1 : QAt e F { t with buf := spl t.buf (o + n) [13, 10] } H1 :=
    { qa with hb := f1.get qa.hb (by simpa using qa.ne), hbf := hbf1, rb := qa.rb.frm f1 (fun x hm => by rw [List.mem_singleton] at hm; subst hm; exact ⟨qa.dB.2, qa.da.2, qa.dv.2⟩), blen := hsl.trans hbl }
  have hget : ∀ j, (spl t.buf (o + n) [13, 10])[j]? = if o + n ≤ j ∧ j < o + n + 2 then ([13, 10] : List UInt8)[j - (o + n)]? else t.buf[j]? := by
    intro j
    have htl : (t.buf.take (o + n)).length = o + n := by simp; omega
    rw [spl]
    by_cases h1 : j < o + n
    · rw [if_neg (by omega), List.append_assoc, List.getElem?_append_left (by omega), List.getElem?_take, if_pos h1]
    · by_cases h2 : j < o + n + 2
      · rw [if_pos ⟨by omega, h2⟩, List.append_assoc, List.getElem?_append_right (by omega), htl, List.getElem?_append_left (by simp; omega)]
      · rw [if_neg (by omega), List.getElem?_append_right (by simp; omega), List.getElem?_drop]
        congr 1
        simp; omega
  refine hK _ H1 qa1 rfl ?_ rfl rfl ?_ f1 z1
  · simp only [QSt.rest, QSt.bufd]
    congr 1
    apply List.ext_getElem?
    intro j
    rw [List.getElem?_drop, List.getElem?_drop, List.getElem?_take, List.getElem?_take, hget, if_neg (show ¬ (o + n ≤ t.r + j ∧ t.r + j < o + n + 2) by omega)]
  · refine .inl ⟨F.bf, o, c, by simp [hn], by simp; omega, fun j hj => ?_⟩
    rw [cellH_of hbf1, List.getElem?_toArray, List.getElem?_map, hget]
    simp only [List.length_append, List.length_cons, List.length_nil] at hj
    by_cases hjn : j < n
    · rw [if_neg (by omega), List.getElem?_append_left (by omega)]
      rcases hl with ⟨b', o', c', he, hc', hcell⟩ | ⟨a, he, hl0⟩
      · cases he
        have := hcell j (by omega)
        rw [cellH_of qa.hbf, List.getElem?_toArray, List.getElem?_map] at this
        exact this
      · rw [hl0] at hn; simp at hn; omega
    · rw [if_pos ⟨by omega, by omega⟩, List.getElem?_append_right (by omega)]
      congr 2
      omega
end Go.Cps
