/-
  A part of the proof (its texts: L1, G1, L2): each text says below what it proves.
  Conditions: each contract's own.
-/
import Derived.Laws.Strings
import Derived.Test.YtfajmapajpfocaaGreatDoorE4
set_option linter.all false
/-
  Words for proofs over the printed bodies: what each small operation gives on known values; heaps; slices of bytes.
  Conditions: none.
-/
namespace Go.Cps
open Go Go.Proofs

section basic
variable {α : Type} {K : Value → Prop} {H : Heap}
@[simp] theorem Get_some (v : α) (K : α → Prop) : Get (some v) K = K v := by simp [Get]
@[simp] theorem Get_none (K : α → Prop) : Get none K = False := by simp [Get]
@[simp] theorem Br_true (A B : Prop) : Br (.bool true) A B = A := by simp [Br]
@[simp] theorem Br_false (A B : Prop) : Br (.bool false) A B = B := by simp [Br]
theorem Br_intro {b : Bool} {A B : Prop} (h1 : b = true → A) (h2 : b = false → B) : Br (.bool b) A B := ⟨b, rfl, h1, h2⟩
@[simp] theorem add_mk (b o n : Nat) : (⟨b, o, none⟩ : Addr).add n = ⟨b, o + n, none⟩ := by
  unfold Addr.add
  split
  · rename_i h; subst h; rfl
  · rfl
@[simp] theorem nilV_ptr (a : Addr) : nilV (.pointer (some a)) = some (.pointer (some a)) := rfl
@[simp] theorem nilV_iface (t : TypeId) (v : Value) : nilV (.iface t v) = some (.iface t v) := rfl
@[simp] theorem fieldAddrV_ptr (n : Nat) (a : Addr) : fieldAddrV n (.pointer (some a)) = some (.pointer (some (a.add n))) := rfl
@[simp] theorem load1V_ptr (a : Addr) (H : Heap) : load1V (.pointer (some a)) H = cellH H a := rfl
@[simp] theorem Fld_ptr (n : Nat) (a : Addr) (H : Heap) (K : Value → Prop) : Fld n (.pointer (some a)) H K = Get (cellH H (a.add n)) K := by simp [Fld]
theorem cellH_of {b : Nat} {cs : Array Value} {t : TypeId} {f : Nat × Nat} (h : H[b]? = some (.cells cs t f)) (o : Nat) : cellH H ⟨b, o, none⟩ = cs[o]? := by simp [cellH, h]
@[simp] theorem pickV_bool (t : Bool) (x y : Value) : pickV (.bool t) x y = some (if t then x else y) := rfl
@[simp] theorem unV_not (b : Bool) : unV .not (.bool b) = some (.bool !b) := rfl
@[simp] theorem extractV_tuple (vs : Array Value) (i : Nat) : extractV (.tuple vs) i = vs[i]? := rfl
@[simp] theorem lenV_slice (a : Option Addr) (n c : Nat) : lenV (.slice a n c) = some (.int .i64 n) := rfl
@[simp] theorem lenStrV_string (s : ByteArray) : lenStrV (.string s) = some (.int .i64 s.size) := rfl
@[simp] theorem capV_slice (a : Option Addr) (n c : Nat) : capV (.slice a n c) = some (.int .i64 c) := rfl
@[simp] theorem nth_zero (v : Value) (r : List Value) : nth (v :: r) 0 = v := rfl
@[simp] theorem nth_succ (v : Value) (r : List Value) (i : Nat) : nth (v :: r) (i + 1) = nth r i := rfl
@[simp] theorem nth_one (u v : Value) (r : List Value) : nth (u :: v :: r) 1 = v := rfl
@[simp] theorem nth_two (u v w : Value) (r : List Value) : nth (u :: v :: w :: r) 2 = w := rfl
@[simp] theorem nth_three (u v w x : Value) (r : List Value) : nth (u :: v :: w :: x :: r) 3 = x := rfl
@[simp] theorem nth_four (u v w x y : Value) (r : List Value) : nth (u :: v :: w :: x :: y :: r) 4 = y := rfl
@[simp] theorem arithV_add (k : IntKind) (a b : Int) : arithV .add k (.int k a) (.int k b) = some (.int k (k.wrap (a + b))) := by simp [arithV]
@[simp] theorem arithV_sub (k : IntKind) (a b : Int) : arithV .sub k (.int k a) (.int k b) = some (.int k (k.wrap (a - b))) := by simp [arithV]
@[simp] theorem arithV_mul (k : IntKind) (a b : Int) : arithV .mul k (.int k a) (.int k b) = some (.int k (k.wrap (a * b))) := by simp [arithV]
@[simp] theorem arithV_eql (k : IntKind) (a b : Int) : arithV .eql k (.int k a) (.int k b) = some (.bool (a == b)) := by simp [arithV]
@[simp] theorem arithV_neq (k : IntKind) (a b : Int) : arithV .neq k (.int k a) (.int k b) = some (.bool (a != b)) := by simp [arithV]
@[simp] theorem arithV_lss (k : IntKind) (a b : Int) : arithV .lss k (.int k a) (.int k b) = some (.bool (a < b)) := by simp [arithV]
@[simp] theorem arithV_leq (k : IntKind) (a b : Int) : arithV .leq k (.int k a) (.int k b) = some (.bool (a ≤ b)) := by simp [arithV]
@[simp] theorem arithV_gtr (k : IntKind) (a b : Int) : arithV .gtr k (.int k a) (.int k b) = some (.bool (a > b)) := by simp [arithV]
@[simp] theorem arithV_geq (k : IntKind) (a b : Int) : arithV .geq k (.int k a) (.int k b) = some (.bool (a ≥ b)) := by simp [arithV]
@[simp] theorem nilV2_eql_nil : nilV2 .eql .nilIface .nilIface = some (.bool true) := rfl
@[simp] theorem nilV2_neq_nil : nilV2 .neq .nilIface .nilIface = some (.bool false) := rfl
@[simp] theorem nilV2_eql_iface (t : TypeId) (v : Value) : nilV2 .eql .nilIface (.iface t v) = some (.bool false) := rfl
@[simp] theorem nilV2_neq_iface (t : TypeId) (v : Value) : nilV2 .neq .nilIface (.iface t v) = some (.bool true) := rfl
@[simp] theorem nilV2_eql_ptr (p : Option Addr) : nilV2 .eql (.pointer none) (.pointer p) = some (.bool p.isNone) := rfl
@[simp] theorem nilV2_neq_ptr (p : Option Addr) : nilV2 .neq (.pointer none) (.pointer p) = some (.bool !p.isNone) := rfl
@[simp] theorem nilV2_eql_slice (p : Option Addr) (n c : Nat) : nilV2 .eql (.slice none 0 0) (.slice p n c) = some (.bool p.isNone) := rfl
@[simp] theorem nilV2_neq_slice (p : Option Addr) (n c : Nat) : nilV2 .neq (.slice none 0 0) (.slice p n c) = some (.bool !p.isNone) := rfl
@[simp] theorem strV_eql (a b : ByteArray) : strV .eql (.string a) (.string b) = some (.bool (a.toList == b.toList)) := rfl
@[simp] theorem intConvV_int (k k' : IntKind) (n : Int) : intConvV k (.int k' n) = some (.int k (k.wrap n)) := rfl
end basic

theorem elemAddr_of {b o n c size : Nat} {k : IntKind} {i : Int} (h0 : 0 ≤ i) (h : i < (n : Int)) : elemAddrV size (.slice (some ⟨b, o, none⟩) n c) (.int k i) = some (.pointer (some ⟨b, o + i.toNat * size, none⟩)) := by
  simp [elemAddrV, h0, h]

theorem CallsH.of {P : Program} {f : FuncId} {args : Array Value} {H : Heap} {K K' : Value → Heap → Prop} (h : CallsH P f args H K) (hk : ∀ v H', K v H' → K' v H') : CallsH P f args H K' := h.mono hk

/- heaps -/
def upd (H : Heap) (b : Nat) (o : Obj) : Heap := H.setIfInBounds b o
@[simp] theorem upd_size (H : Heap) (b : Nat) (o : Obj) : (upd H b o).size = H.size := by simp [upd]
theorem upd_same {H : Heap} {b : Nat} {o : Obj} (h : b < H.size) : (upd H b o)[b]? = some o := by simp [upd, h]
theorem upd_ne {H : Heap} {b c : Nat} {o : Obj} (h : b ≠ c) : (upd H b o)[c]? = H[c]? := by simp [upd, Array.getElem?_setIfInBounds_ne h]
theorem lt_of_some {H : Heap} {b : Nat} {o : Obj} (h : H[b]? = some o) : b < H.size := (Array.getElem?_eq_some_iff.1 h).1

/-- only the blocks of S may have changed -/
structure Frm (S : List Nat) (H H' : Heap) : Prop where
  size : H.size ≤ H'.size
  same : ∀ k, k < H.size → k ∉ S → H'[k]? = H[k]?
theorem Frm.refl (S : List Nat) (H : Heap) : Frm S H H := ⟨Nat.le_refl _, fun _ _ _ => rfl⟩
theorem Frm.trans {S : List Nat} {a b c : Heap} (h : Frm S a b) (k : Frm S b c) : Frm S a c :=
  ⟨Nat.le_trans h.size k.size, fun i hi hs => (k.same i (Nat.lt_of_lt_of_le hi h.size) hs).trans (h.same i hi hs)⟩
theorem Frm.mono {S S' : List Nat} {a b : Heap} (h : Frm S a b) (hs : ∀ x ∈ S, x ∈ S') : Frm S' a b := ⟨h.size, fun k hk hk' => h.same k hk (fun hx => hk' (hs k hx))⟩
theorem Frm.get {S : List Nat} {H H' : Heap} (h : Frm S H H') {b : Nat} {o : Obj} (hb : H[b]? = some o) (hs : b ∉ S) : H'[b]? = some o := (h.same b (lt_of_some hb) hs).trans hb
theorem Frm.push (S : List Nat) (H : Heap) (o : Obj) : Frm S H (H.push o) := ⟨by simp, fun k hk _ => by rw [Array.getElem?_push]; rw [if_neg (by omega)]⟩
theorem Frm.upd {S : List Nat} {H : Heap} {b : Nat} (o : Obj) (hb : b ∈ S) : Frm S H (upd H b o) := ⟨by simp, fun k _ hk => upd_ne (fun e => hk (e ▸ hb))⟩

theorem push_same (H : Heap) (o : Obj) : (H.push o)[H.size]? = some o := by simp
theorem push_old {H : Heap} {o x : Obj} {b : Nat} (h : H[b]? = some x) : (H.push o)[b]? = some x := by
  rw [Array.getElem?_push, if_neg (by have := lt_of_some h; omega)]; exact h

/- a store of one cell into a block known whole -/
theorem setH_eq_upd {H : Heap} {b o : Nat} {cs : Array Value} {t : TypeId} {f : Nat × Nat} (h : H[b]? = some (.cells cs t f)) (v : Value) : setH H ⟨b, o, none⟩ v = upd H b (.cells (cs.setIfInBounds o v) t f) := by
  apply Array.ext_getElem?
  intro k
  simp only [setH, upd, Array.getElem?_modify, Array.getElem?_setIfInBounds]
  by_cases hk : b = k
  · subst hk
    rw [if_pos rfl, if_pos rfl, if_pos (lt_of_some h), h]
    rfl
  · rw [if_neg hk, if_neg hk]

theorem store1V_of {H : Heap} {b o : Nat} {cs : Array Value} {t : TypeId} (h : H[b]? = some (.cells cs t (0, 0))) (ho : o < cs.size) {v : Value} (hv : isOne v = true) :
    store1V (.pointer (some ⟨b, o, none⟩)) v H = some (upd H b (.cells (cs.setIfInBounds o v) t (0, 0))) := by
  have h1 : (cellH H ⟨b, o, none⟩).isSome = true := by rw [cellH_of h]; simp [ho]
  have h2 : frozenH H ⟨b, o, none⟩ = false := by simp [frozenH, h]
  simp [store1V, storesH, hv, h1, h2, setH_eq_upd h]

/- byte lists in memory -/
def byteV (b : UInt8) : Value := .int .u8 b.toNat
theorem toByte_byteV (b : UInt8) : toByte? (byteV b) = some b := by simp [toByte?, byteV]
theorem bytesOfCells_map : ∀ (l : List UInt8), bytesOfCells (l.map byteV) = some l
  | [] => rfl
  | b :: r => by simp [bytesOfCells, toByte_byteV, bytesOfCells_map r]

theorem cellsH_getElem {H : Heap} {b o : Nat} : ∀ (n i : Nat) (l : List Value), cellsH H ⟨b, o, none⟩ i n = some l ↔ l.length = n ∧ ∀ j, j < n → cellH H ⟨b, o + (i + j), none⟩ = l[j]?
  | 0, i, l => by
    simp only [cellsH, Option.some.injEq]
    constructor
    · rintro rfl; exact ⟨rfl, fun j hj => by omega⟩
    · intro h; exact (List.eq_nil_of_length_eq_zero h.1).symm
  | n + 1, i, l => by
    simp only [cellsH, add_mk]
    constructor
    · intro h
      split at h <;> try contradiction
      rename_i v hv
      cases hr : cellsH H ⟨b, o, none⟩ (i + 1) n with
      | none => simp [hr] at h
      | some r =>
        simp only [hr, Option.map_some, Option.some.injEq] at h
        subst h
        obtain ⟨h1, h2⟩ := (cellsH_getElem n (i + 1) r).1 hr
        refine ⟨by simp [h1], fun j hj => ?_⟩
        cases j with
        | zero => simpa using hv
        | succ j =>
          have := h2 j (by omega)
          rw [show o + (i + (j + 1)) = o + (i + 1 + j) by omega, this]
          simp
    · rintro ⟨h1, h2⟩
      cases l with
      | nil => simp at h1
      | cons v r =>
        have h0 := h2 0 (by omega)
        simp only [Nat.add_zero, List.getElem?_cons_zero] at h0
        rw [h0]
        simp only []
        have hr : cellsH H ⟨b, o, none⟩ (i + 1) n = some r := (cellsH_getElem n (i + 1) r).2 ⟨by simpa using h1, fun j hj => by
          have := h2 (j + 1) (by omega)
          rw [show o + (i + 1 + j) = o + (i + (j + 1)) by omega, this]
          simp⟩
        rw [hr]
        rfl

/-- a slice of bytes that reads as l -/
def IsBytes (H : Heap) (v : Value) (l : List UInt8) : Prop :=
  (∃ b o c, v = .slice (some ⟨b, o, none⟩) l.length c ∧ l.length ≤ c ∧ ∀ j, j < l.length → cellH H ⟨b, o + j, none⟩ = (l[j]?).map byteV) ∨ (∃ a, v = .slice a 0 0 ∧ l = [])

theorem IsBytes.str {H : Heap} {v : Value} {l : List UInt8} (h : IsBytes H v l) : bytesV v H = some (.string ⟨l.toArray⟩) := by
  rcases h with ⟨b, o, c, rfl, _, hc⟩ | ⟨a, rfl, rfl⟩
  · have : cellsH H ⟨b, o, none⟩ 0 l.length = some (l.map byteV) := (cellsH_getElem _ _ _).2 ⟨by simp, fun j hj => by rw [Nat.zero_add, hc j hj]; simp⟩
    simp [bytesV, this, bytesOfCells_map]
  · cases a <;> rfl
theorem IsBytes.len {H : Heap} {v : Value} {l : List UInt8} (h : IsBytes H v l) : lenV v = some (.int .i64 l.length) := by
  rcases h with ⟨b, o, c, rfl, _, _⟩ | ⟨a, rfl, rfl⟩ <;> rfl

theorem IsBytes.cast {H H' : Heap} {v : Value} {l : List UInt8} (h : IsBytes H v l) (hk : ∀ b o c, v = .slice (some ⟨b, o, none⟩) l.length c → H'[b]? = H[b]?) : IsBytes H' v l := by
  rcases h with ⟨b, o, c, rfl, h1, h2⟩ | ⟨a, rfl, rfl⟩
  · refine .inl ⟨b, o, c, rfl, h1, fun j hj => ?_⟩
    rw [← h2 j hj]
    simp [cellH, hk b o c rfl]
  · exact .inr ⟨a, rfl, rfl⟩

/-- a part of it -/
theorem IsBytes.sub {H : Heap} {b o n c : Nat} {l : List UInt8} (h : IsBytes H (.slice (some ⟨b, o, none⟩) n c) l) {lo hi : Nat} (h1 : lo ≤ hi) (h2 : hi ≤ l.length) :
    IsBytes H (.slice (some (if c = lo then ⟨b, o, none⟩ else ⟨b, o + lo, none⟩)) (hi - lo) (c - lo)) ((l.take hi).drop lo) := by
  rcases h with ⟨b', o', c', he, hc, hcell⟩ | ⟨a, he, hl⟩
  · cases he
    have hlen : ((l.take hi).drop lo).length = hi - lo := by simp; omega
    by_cases hcl : c = lo
    · rw [if_pos hcl]
      refine .inl ⟨b, o, c - lo, by rw [hlen], by rw [hlen]; omega, fun j hj => by rw [hlen] at hj; omega⟩
    · rw [if_neg hcl]
      refine .inl ⟨b, o + lo, c - lo, by rw [hlen], by rw [hlen]; omega, fun j hj => ?_⟩
      rw [hlen] at hj
      rw [Nat.add_assoc, hcell (lo + j) (by omega)]
      rw [List.getElem?_drop, List.getElem?_take, if_pos (by omega)]
  · cases he
    subst hl
    obtain rfl : hi = 0 := by simpa using h2
    obtain rfl : lo = 0 := by omega
    exact .inr ⟨_, rfl, rfl⟩

theorem sliceV_of {a : Option Addr} {n c size : Nat} {lo hi : Nat} (h1 : lo ≤ hi) (h2 : hi ≤ c) (k k' : IntKind) : sliceV size (.slice a n c) (some (.int k lo)) (some (.int k' hi)) none = some (.slice (if c = lo then a else a.map (·.add (lo * size))) (hi - lo) (c - lo)) := by
  have e1 : boundV (some (.int k' hi)) n c = some hi := by simp [boundV]; omega
  have e2 : boundV (some (.int k lo)) 0 hi = some lo := by simp [boundV]; omega
  have e0 : boundV none c c = some c := rfl
  simp [sliceV, boundsV, e0, e1, e2]
theorem sliceV_lo {a : Option Addr} {n c size : Nat} {lo : Nat} (h1 : lo ≤ n) (k : IntKind) : sliceV size (.slice a n c) (some (.int k lo)) none none = some (.slice (if c = lo then a else a.map (·.add (lo * size))) (n - lo) (c - lo)) := by
  have e1 : boundV none n c = some n := rfl
  have e2 : boundV (some (.int k lo)) 0 n = some lo := by simp [boundV]; omega
  have e0 : boundV none c c = some c := rfl
  simp [sliceV, boundsV, e0, e1, e2]
theorem sliceV_hi {a : Option Addr} {n c size : Nat} {hi : Nat} (h2 : hi ≤ c) (k : IntKind) : sliceV size (.slice a n c) none (some (.int k hi)) none = some (.slice a hi c) := by
  have e1 : boundV (some (.int k hi)) n c = some hi := by simp [boundV]; omega
  have e2 : boundV none 0 hi = some 0 := rfl
  have e0 : boundV none c c = some c := rfl
  simp only [sliceV, boundsV, e0, e1, e2, Nat.zero_mul, Nat.sub_zero, Option.some.injEq, Value.slice.injEq, and_true]
  split
  · rfl
  · cases a with
    | none => rfl
    | some a => simp [Addr.add]
end Go.Cps

/-
  What the bodies of some functions of the program come to, at heap level, each proved of the program itself.
  Conditions: none. Written by gen.py.
-/
namespace Go.Cps
open Go Go.Proofs
set_option maxRecDepth 100000

/-- bytes.HasPrefix -/
def c58 (a0 a1 : Value) (H : Heap) (R : Value → Heap → Prop) : Prop :=
  Join (fun K1 =>
  Get (lenV a0) fun x6 =>
  Get (lenV a1) fun x8 =>
  Get (arithV .geq .i64 x6 x8) fun x9 =>
  Br x9 (
  Get (lenV a1) fun x13 =>
  Get (sliceV 1 a0 none (some x13) none) fun x14 =>
  CallsH Tryz.prog 82 #[x14, a1] H fun x16 H =>
  Get (pickV (.bool true) x16 (.bool false)) fun x17 =>
  K1 [x17] H) (
  Get (pickV (.bool false) undef (.bool false)) fun x17_1 =>
  K1 [x17_1] H)) fun vs2 H =>
  R (nth vs2 0) H
def p58 : Plan := .seq (.leaf []) (.join [4] (.leaf []) (.leaf []))
theorem s58 {a0 a1 : Value} {H : Heap} {R : Value → Heap → Prop} (h : c58 a0 a1 H R) : CallsH Tryz.prog 58 #[a0, a1] H R :=
  callsH_of_eq p58 (fn := Tryz.f58) (c := Tryz.f58.body.getD .skip) (args := [a0, a1]) Tryz.func58 (by kernel_rfl) mixed (by kernel_rfl) (by kernel_rfl) (by kernel_rfl) h

/-- bytes.Equal -/
def c82 (a0 a1 : Value) (H : Heap) (R : Value → Heap → Prop) : Prop :=
  Get (bytesV a0 H) fun x6 =>
  Get (bytesV a1 H) fun x8 =>
  Get (strV .eql x6 x8) fun x9 =>
  R x9 H
def p82 : Plan := .seq (.leaf []) (.seq (.leaf []) (.leaf []))
theorem s82 {a0 a1 : Value} {H : Heap} {R : Value → Heap → Prop} (h : c82 a0 a1 H R) : CallsH Tryz.prog 82 #[a0, a1] H R :=
  callsH_of_eq p82 (fn := Tryz.f82) (c := Tryz.f82.body.getD .skip) (args := [a0, a1]) Tryz.func82 (by kernel_rfl) mixed (by kernel_rfl) (by kernel_rfl) (by kernel_rfl) h

/-- bytes.IndexByte -/
def c109 (a0 a1 : Value) (H : Heap) (R : Value → Heap → Prop) : Prop :=
  CallX Tryz.prog 142 #[a0, a1] H fun x7 H =>
  R x7 H
def p109 : Plan := .seq (.leaf []) (.seq (.leaf []) (.leaf []))
theorem s109 {a0 a1 : Value} {H : Heap} {R : Value → Heap → Prop} (h : c109 a0 a1 H R) : CallsH Tryz.prog 109 #[a0, a1] H R :=
  callsH_of_eq p109 (fn := Tryz.f109) (c := Tryz.f109.body.getD .skip) (args := [a0, a1]) Tryz.func109 (by kernel_rfl) mixed (by kernel_rfl) (by kernel_rfl) (by kernel_rfl) h

/-- pub/multipart.skipLWSPChar -/
def c113 (a0 : Value) (H : Heap) (R : Value → Heap → Prop) : Prop :=
  Loop [a0] H fun K1 vs2 H =>
  Join (fun K3 =>
  Get (lenV (nth vs2 0)) fun x4 =>
  Get (arithV .gtr .i64 x4 (.int .i64 0)) fun x5 =>
  Br x5 (
  Get (elemAddrV 1 (nth vs2 0) (.int .i64 0)) fun x8 =>
  Get (load1V x8 H) fun x9 =>
  Get (arithV .eql .u8 x9 (.int .u8 32)) fun x10 =>
  Br x10 (
  Get (pickV (.bool true) (.bool true) undef) fun x16 =>
  Get (pickV (.bool true) x16 (.bool false)) fun x17 =>
  K3 [x17] H) (
  Get (elemAddrV 1 (nth vs2 0) (.int .i64 0)) fun x13 =>
  Get (load1V x13 H) fun x14 =>
  Get (arithV .eql .u8 x14 (.int .u8 9)) fun x15 =>
  Get (pickV (.bool false) (.bool true) x15) fun x16_1 =>
  Get (pickV (.bool true) x16_1 (.bool false)) fun x17_1 =>
  K3 [x17_1] H)) (
  Get (pickV (.bool false) undef (.bool false)) fun x17_2 =>
  K3 [x17_2] H)) fun vs4 H =>
  Br (nth vs4 0) (
  Get (sliceV 1 (nth vs2 0) (some (.int .i64 1)) none none) fun x19 =>
  K1 [x19] H) (
  R (nth vs2 0) H)
def p113 : Plan := .seq (.leaf []) (.seq (.block (.loop [0] (.seq (.join [17] (.leaf []) (.cond (.leaf []) (.leaf []))) (.block (.leaf []))))) (.seq (.leaf []) (.leaf [])))
theorem s113 {a0 : Value} {H : Heap} {R : Value → Heap → Prop} (h : c113 a0 H R) : CallsH Tryz.prog 113 #[a0] H R :=
  callsH_of_eq p113 (fn := Tryz.f113) (c := Tryz.f113.body.getD .skip) (args := [a0]) Tryz.func113 (by kernel_rfl) mixed (by kernel_rfl) (by kernel_rfl) (by kernel_rfl) h

/-- (*pub/multipart.Reader).isFinalBoundary -/
def c94 (a0 a1 : Value) (H : Heap) (R : Value → Heap → Prop) : Prop :=
  Fld 6 a0 H fun x10 =>
  CallsH Tryz.prog 58 #[a1, x10] H fun x11 H =>
  Get (unV .not x11) fun x12 =>
  Br x12 (
  R (.bool false) H) (
  Fld 6 a0 H fun x17 =>
  Get (lenV x17) fun x18 =>
  Get (sliceV 1 a1 (some x18) none none) fun x19 =>
  CallsH Tryz.prog 113 #[x19] H fun x21 H =>
  Join (fun K1 =>
  Get (lenV x21) fun x23 =>
  Get (arithV .eql .i64 x23 (.int .i64 0)) fun x24 =>
  Br x24 (
  Get (pickV (.bool true) (.bool true) undef) fun x32 =>
  K1 [x32] H) (
  Fld 4 a0 H fun x30 =>
  CallsH Tryz.prog 82 #[x21, x30] H fun x31 H =>
  Get (pickV (.bool false) (.bool true) x31) fun x32_1 =>
  K1 [x32_1] H)) fun vs2 H =>
  R (nth vs2 0) H)
def p94 : Plan := .seq (.leaf []) (.seq (.seq (.leaf []) (.cond (.seq (.leaf []) (.leaf [])) (.leaf []))) (.seq (.leaf []) (.seq (.leaf []) (.join [4] (.leaf []) (.leaf [])))))
theorem s94 {a0 a1 : Value} {H : Heap} {R : Value → Heap → Prop} (h : c94 a0 a1 H R) : CallsH Tryz.prog 94 #[a0, a1] H R :=
  callsH_of_eq p94 (fn := Tryz.f94) (c := Tryz.f94.body.getD .skip) (args := [a0, a1]) Tryz.func94 (by kernel_rfl) mixed (by kernel_rfl) (by kernel_rfl) (by kernel_rfl) h

/-- (*pub/multipart.Reader).isBoundaryDelimiterLine -/
def c95 (a0 a1 : Value) (H : Heap) (R : Value → Heap → Prop) : Prop :=
  Fld 7 a0 H fun x10 =>
  CallsH Tryz.prog 58 #[a1, x10] H fun x11 H =>
  Get (unV .not x11) fun x12 =>
  Br x12 (
  R (.bool false) H) (
  Fld 7 a0 H fun x17 =>
  Get (lenV x17) fun x18 =>
  Get (sliceV 1 a1 (some x18) none none) fun x19 =>
  CallsH Tryz.prog 113 #[x19] H fun x21 H =>
  Join (fun K1 =>
  Join (fun K2 =>
  Fld 3 a0 H fun x25 =>
  Get (arithV .eql .i64 x25 (.int .i64 0)) fun x26 =>
  Br x26 (
  Get (lenV x21) fun x29 =>
  Get (arithV .eql .i64 x29 (.int .i64 1)) fun x30 =>
  Get (pickV (.bool true) x30 (.bool false)) fun x31 =>
  Br x31 (
  Get (elemAddrV 1 x21 (.int .i64 0)) fun x34 =>
  Get (load1V x34 H) fun x35 =>
  Get (arithV .eql .u8 x35 (.int .u8 10)) fun x36 =>
  Get (pickV (.bool true) x36 (.bool false)) fun x37 =>
  K2 [x37] H) (
  Get (pickV (.bool false) undef (.bool false)) fun x37_1 =>
  K2 [x37_1] H)) (
  Get (pickV (.bool false) undef (.bool false)) fun x31_1 =>
  Br x31_1 (
  Get (elemAddrV 1 x21 (.int .i64 0)) fun x34_1 =>
  Get (load1V x34_1 H) fun x35_1 =>
  Get (arithV .eql .u8 x35_1 (.int .u8 10)) fun x36_1 =>
  Get (pickV (.bool true) x36_1 (.bool false)) fun x37_2 =>
  K2 [x37_2] H) (
  Get (pickV (.bool false) undef (.bool false)) fun x37_3 =>
  K2 [x37_3] H))) fun vs3 H =>
  Br (nth vs3 0) (
  Fld 4 a0 H fun x42 =>
  Get (sliceV 1 x42 (some (.int .i64 1)) none none) fun x43 =>
  Get (nilV a0) fun x44 =>
  Get (fieldAddrV 4 x44) fun x45 =>
  Get (store1V x45 x43 H) fun H =>
  Fld 5 a0 H fun x50 =>
  Get (sliceV 1 x50 (some (.int .i64 1)) none none) fun x51 =>
  Get (nilV a0) fun x52 =>
  Get (fieldAddrV 5 x52) fun x53 =>
  Get (store1V x53 x51 H) fun H =>
  K1 [] H) (
  K1 [] H)) fun _ H =>
  Fld 4 a0 H fun x58 =>
  CallsH Tryz.prog 82 #[x21, x58] H fun x59 H =>
  R x59 H)
def p95 : Plan := .seq (.leaf []) (.seq (.seq (.leaf []) (.cond (.seq (.leaf []) (.leaf [])) (.leaf []))) (.seq (.leaf []) (.seq (.leaf []) (.join [] (.join [37] (.leaf []) (.cond (.seq (.leaf []) (.leaf [])) (.leaf []))) (.seq (.leaf []) (.leaf []))))))
theorem s95 {a0 a1 : Value} {H : Heap} {R : Value → Heap → Prop} (h : c95 a0 a1 H R) : CallsH Tryz.prog 95 #[a0, a1] H R :=
  callsH_of_eq p95 (fn := Tryz.f95) (c := Tryz.f95.body.getD .skip) (args := [a0, a1]) Tryz.func95 (by kernel_rfl) mixed (by kernel_rfl) (by kernel_rfl) (by kernel_rfl) h

/-- (*bufio.Reader).readErr -/
def c110 (a0 : Value) (H : Heap) (R : Value → Heap → Prop) : Prop :=
  Fld 4 a0 H fun x7 =>
  Get (nilV a0) fun x9 =>
  Get (fieldAddrV 4 x9) fun x10 =>
  Get (store1V x10 .nilIface H) fun H =>
  R x7 H
def p110 : Plan := .seq (.leaf []) (.seq (.leaf []) (.seq (.leaf []) (.seq (.leaf []) (.leaf []))))
theorem s110 {a0 : Value} {H : Heap} {R : Value → Heap → Prop} (h : c110 a0 H R) : CallsH Tryz.prog 110 #[a0] H R :=
  callsH_of_eq p110 (fn := Tryz.f110) (c := Tryz.f110.body.getD .skip) (args := [a0]) Tryz.func110 (by kernel_rfl) mixed (by kernel_rfl) (by kernel_rfl) (by kernel_rfl) h

/-- (*bufio.Reader).Buffered -/
def c111 (a0 : Value) (H : Heap) (R : Value → Heap → Prop) : Prop :=
  Fld 3 a0 H fun x6 =>
  Fld 2 a0 H fun x10 =>
  Get (arithV .sub .i64 x6 x10) fun x11 =>
  R x11 H
def p111 : Plan := .seq (.leaf []) (.seq (.leaf [0, 1, 2, 3, 4, 5, 6, 7, 8, 9]) (.leaf []))
theorem s111 {a0 : Value} {H : Heap} {R : Value → Heap → Prop} (h : c111 a0 H R) : CallsH Tryz.prog 111 #[a0] H R :=
  callsH_of_eq p111 (fn := Tryz.f111) (c := Tryz.f111.body.getD .skip) (args := [a0]) Tryz.func111 (by kernel_rfl) mixed (by kernel_rfl) (by kernel_rfl) (by kernel_rfl) h

/-- (*bufio.Reader).fill -/
def c112 (a0 : Value) (H : Heap) (R : Value → Heap → Prop) : Prop :=
  Join (fun K1 =>
  Fld 2 a0 H fun x8 =>
  Get (arithV .gtr .i64 x8 (.int .i64 0)) fun x9 =>
  Br x9 (
  Fld 0 a0 H fun x13 =>
  Fld 0 a0 H fun x17 =>
  Fld 2 a0 H fun x21 =>
  Fld 3 a0 H fun x25 =>
  Get (sliceV 1 x17 (some x21) (some x25) none) fun x26 =>
  Copy 1 x13 x26 H fun _ H =>
  Fld 3 a0 H fun x31 =>
  Fld 2 a0 H fun x35 =>
  Get (arithV .sub .i64 x31 x35) fun x36 =>
  Get (nilV a0) fun x37 =>
  Get (fieldAddrV 3 x37) fun x38 =>
  Get (store1V x38 x36 H) fun H =>
  Get (nilV a0) fun x40 =>
  Get (fieldAddrV 2 x40) fun x41 =>
  Get (store1V x41 (.int .i64 0) H) fun H =>
  K1 [] H) (
  K1 [] H)) fun _ H =>
  Join (fun K3 =>
  Fld 3 a0 H fun x45 =>
  Fld 0 a0 H fun x49 =>
  Get (lenV x49) fun x50 =>
  Get (arithV .geq .i64 x45 x50) fun x51 =>
  Br x51 (
  Get (some (Value.iface 9 (.string ⟨#[98, 117, 102, 105, 111, 58, 32, 116, 114, 105, 101, 100, 32, 116, 111, 32, 102, 105, 108, 108, 32, 102, 117, 108, 108, 32, 98, 117, 102, 102, 101, 114]⟩))) fun _ =>
  False) (
  K3 [] H)) fun _ H =>
  Loop [(.int .i64 100)] H fun K5 vs6 H =>
  Get (arithV .gtr .i64 (nth vs6 0) (.int .i64 0)) fun x54 =>
  Br x54 (
  Fld 1 a0 H fun x61 =>
  Fld 0 a0 H fun x65 =>
  Fld 3 a0 H fun x69 =>
  Get (sliceV 1 x65 (some x69) none none) fun x70 =>
  Get (nilV x61) fun _ =>
  Invoke Tryz.prog "Read" x61 #[x70] H fun x73 H =>
  Get (extractV x73 0) fun x74 =>
  Get (extractV x73 1) fun x75 =>
  Join (fun K7 =>
  Get (arithV .lss .i64 x74 (.int .i64 0)) fun x77 =>
  Br x77 (
  Get (load1V (.pointer (some ⟨5, 0, none⟩)) H) fun _ =>
  False) (
  K7 [] H)) fun _ H =>
  Fld 3 a0 H fun x82 =>
  Get (arithV .add .i64 x82 x74) fun x84 =>
  Get (nilV a0) fun x85 =>
  Get (fieldAddrV 3 x85) fun x86 =>
  Get (store1V x86 x84 H) fun H =>
  Get (nilV2 .neq .nilIface x75) fun x88 =>
  Br x88 (
  Get (nilV a0) fun x91 =>
  Get (fieldAddrV 4 x91) fun x92 =>
  Get (store1V x92 x75 H) fun H =>
  R (.tuple #[]) H) (
  Get (arithV .gtr .i64 x74 (.int .i64 0)) fun x94 =>
  Br x94 (
  R (.tuple #[]) H) (
  Get (arithV .sub .i64 (nth vs6 0) (.int .i64 1)) fun x56 =>
  K5 [x56] H))) (
  Get (load1V (.pointer (some ⟨6, 0, none⟩)) H) fun x96 =>
  Get (nilV a0) fun x97 =>
  Get (fieldAddrV 4 x97) fun x98 =>
  Get (store1V x98 x96 H) fun H =>
  R (.tuple #[]) H)
def p112 : Plan := .join [] (.seq (.leaf []) (.cond (.seq (.leaf [0, 1, 2, 3, 4, 5, 6, 7, 8, 9, 10, 11, 12, 13, 14, 15, 16, 17]) (.seq (.leaf [0, 1, 2, 3, 4, 5, 6, 7, 8, 9, 10, 11]) (.leaf []))) (.leaf []))) (.join [] (.seq (.leaf [0, 1, 2, 3, 4, 5, 6, 7, 8, 9]) (.cond (.leaf []) (.leaf []))) (.seq (.seq (.leaf []) (.block (.loop [2] (.seq (.seq (.leaf []) (.cond (.leaf []) (.leaf []))) (.seq (.block (.seq (.leaf [0, 1, 2, 3, 4, 5, 6, 7, 8, 9, 10, 11, 12, 13, 14, 15, 16, 17, 18, 19, 20]) (.join [] (.seq (.leaf []) (.cond (.leaf []) (.leaf []))) (.seq (.leaf []) (.seq (.seq (.leaf []) (.cond (.seq (.leaf []) (.leaf [])) (.leaf []))) (.seq (.leaf []) (.cond (.leaf []) (.leaf [])))))))) (.leaf [])))))) (.leaf [])))
theorem s112 {a0 : Value} {H : Heap} {R : Value → Heap → Prop} (h : c112 a0 H R) : CallsH Tryz.prog 112 #[a0] H R :=
  callsH_of_eq p112 (fn := Tryz.f112) (c := Tryz.f112.body.getD .skip) (args := [a0]) Tryz.func112 (by kernel_rfl) mixed (by kernel_rfl) (by kernel_rfl) (by kernel_rfl) h

/-- (*pub/multipart.stickyErrorReader).Read -/
def c218 (a0 a1 : Value) (H : Heap) (R : Value → Heap → Prop) : Prop :=
  Fld 1 a0 H fun x9 =>
  Get (nilV2 .neq .nilIface x9) fun x10 =>
  Br x10 (
  Fld 1 a0 H fun x14 =>
  R (.tuple #[(.int .i64 0), x14]) H) (
  Fld 0 a0 H fun x20 =>
  Invoke Tryz.prog "Read" x20 #[a1] H fun x22 H =>
  Get (extractV x22 0) fun x23 =>
  Get (extractV x22 1) fun x24 =>
  Get (nilV a0) fun x25 =>
  Get (fieldAddrV 1 x25) fun x26 =>
  Get (store1V x26 x24 H) fun H =>
  Fld 1 a0 H fun x31 =>
  R (.tuple #[x23, x31]) H)
def p218 : Plan := .seq (.leaf []) (.seq (.seq (.leaf []) (.cond (.seq (.leaf [0, 1, 2, 3, 4, 5]) (.leaf [])) (.leaf []))) (.seq (.leaf []) (.seq (.leaf [0, 1, 2, 3, 4, 5, 6]) (.leaf []))))
theorem s218 {a0 a1 : Value} {H : Heap} {R : Value → Heap → Prop} (h : c218 a0 a1 H R) : CallsH Tryz.prog 218 #[a0, a1] H R :=
  callsH_of_eq p218 (fn := Tryz.f218) (c := Tryz.f218.body.getD .skip) (args := [a0, a1]) Tryz.func218 (by kernel_rfl) mixed (by kernel_rfl) (by kernel_rfl) (by kernel_rfl) h

/-- (*bytes.Reader).Read -/
def c220 (a0 a1 : Value) (H : Heap) (R : Value → Heap → Prop) : Prop :=
  Fld 1 a0 H fun x9 =>
  Fld 0 a0 H fun x13 =>
  Get (lenV x13) fun x14 =>
  Get (arithV .geq .i64 x9 x14) fun x15 =>
  Br x15 (
  Get (load1V (.pointer (some ⟨0, 0, none⟩)) H) fun x16 =>
  R (.tuple #[(.int .i64 0), x16]) H) (
  Get (nilV a0) fun x18 =>
  Get (fieldAddrV 2 x18) fun x19 =>
  Get (store1V x19 (.int .i64 (-1)) H) fun H =>
  Fld 0 a0 H fun x24 =>
  Fld 1 a0 H fun x28 =>
  Get (sliceV 1 x24 (some x28) none none) fun x29 =>
  Copy 1 a1 x29 H fun x30 H =>
  Fld 1 a0 H fun x34 =>
  Get (arithV .add .i64 x34 x30) fun x36 =>
  Get (nilV a0) fun x37 =>
  Get (fieldAddrV 1 x37) fun x38 =>
  Get (store1V x38 x36 H) fun H =>
  R (.tuple #[x30, .nilIface]) H)
def p220 : Plan := .seq (.leaf []) (.seq (.seq (.leaf [0, 1, 2, 3, 4, 5, 6, 7, 8, 9]) (.cond (.seq (.leaf [0, 1, 2]) (.leaf [])) (.leaf []))) (.seq (.leaf []) (.seq (.leaf [0, 1, 2, 3, 4, 5, 6, 7, 8, 9, 10, 11]) (.seq (.leaf []) (.leaf [])))))
theorem s220 {a0 a1 : Value} {H : Heap} {R : Value → Heap → Prop} (h : c220 a0 a1 H R) : CallsH Tryz.prog 220 #[a0, a1] H R :=
  callsH_of_eq p220 (fn := Tryz.f220) (c := Tryz.f220.body.getD .skip) (args := [a0, a1]) Tryz.func220 (by kernel_rfl) mixed (by kernel_rfl) (by kernel_rfl) (by kernel_rfl) h

/-- (*bufio.Reader).ReadSlice -/
def c93 (a0 a1 : Value) (H : Heap) (R : Value → Heap → Prop) : Prop :=
  Join (fun K1 =>
  Loop [.nilIface, (.int .i64 0)] H fun K2 vs3 H =>
  Fld 0 a0 H fun x12 =>
  Fld 2 a0 H fun x16 =>
  Get (arithV .add .i64 x16 (nth vs3 1)) fun x18 =>
  Fld 3 a0 H fun x22 =>
  Get (sliceV 1 x12 (some x18) (some x22) none) fun x23 =>
  CallsH Tryz.prog 109 #[x23, a1] H fun x25 H =>
  Get (arithV .geq .i64 x25 (.int .i64 0)) fun x27 =>
  Br x27 (
  Get (arithV .add .i64 x25 (nth vs3 1)) fun x30 =>
  Fld 0 a0 H fun x34 =>
  Fld 2 a0 H fun x38 =>
  Fld 2 a0 H fun x42 =>
  Get (arithV .add .i64 x42 x30) fun x44 =>
  Get (arithV .add .i64 x44 (.int .i64 1)) fun x45 =>
  Get (sliceV 1 x34 (some x38) (some x45) none) fun x46 =>
  Fld 2 a0 H fun x50 =>
  Get (arithV .add .i64 x30 (.int .i64 1)) fun x52 =>
  Get (arithV .add .i64 x50 x52) fun x53 =>
  Get (nilV a0) fun x54 =>
  Get (fieldAddrV 2 x54) fun x55 =>
  Get (store1V x55 x53 H) fun H =>
  K1 [x46, (nth vs3 0)] H) (
  Fld 4 a0 H fun x59 =>
  Get (nilV2 .neq .nilIface x59) fun x60 =>
  Br x60 (
  Fld 0 a0 H fun x64 =>
  Fld 2 a0 H fun x68 =>
  Fld 3 a0 H fun x72 =>
  Get (sliceV 1 x64 (some x68) (some x72) none) fun x73 =>
  Fld 3 a0 H fun x78 =>
  Get (nilV a0) fun x79 =>
  Get (fieldAddrV 2 x79) fun x80 =>
  Get (store1V x80 x78 H) fun H =>
  CallsH Tryz.prog 110 #[a0] H fun x82 H =>
  K1 [x73, x82] H) (
  Get (nilV a0) fun x86 =>
  Get (fieldAddrV 0 x86) fun x87 =>
  Get (load1V x87 H) fun x88 =>
  CallsH Tryz.prog 111 #[a0] H fun x84 H =>
  (load1V x87 H = some x88 ∧ True) ∧
  Get (lenV x88) fun x89 =>
  Get (arithV .geq .i64 x84 x89) fun x90 =>
  Br x90 (
  Fld 3 a0 H fun x95 =>
  Get (nilV a0) fun x96 =>
  Get (fieldAddrV 2 x96) fun x97 =>
  Get (store1V x97 x95 H) fun H =>
  Fld 0 a0 H fun x101 =>
  Get (load1V (.pointer (some ⟨4, 0, none⟩)) H) fun x102 =>
  K1 [x101, x102] H) (
  Fld 3 a0 H fun x106 =>
  Fld 2 a0 H fun x110 =>
  Get (arithV .sub .i64 x106 x110) fun x111 =>
  CallsH Tryz.prog 112 #[a0] H fun _ H =>
  K2 [(nth vs3 0), x111] H)))) fun vs4 H =>
  Join (fun K5 =>
  Get (lenV (nth vs4 0)) fun x115 =>
  Get (arithV .sub .i64 x115 (.int .i64 1)) fun x116 =>
  Get (arithV .geq .i64 x116 (.int .i64 0)) fun x118 =>
  Br x118 (
  Get (elemAddrV 1 (nth vs4 0) x116) fun x122 =>
  Get (load1V x122 H) fun x123 =>
  Get (intConvV .i64 x123) fun x124 =>
  Get (nilV a0) fun x125 =>
  Get (fieldAddrV 5 x125) fun x126 =>
  Get (store1V x126 x124 H) fun H =>
  Get (nilV a0) fun x128 =>
  Get (fieldAddrV 6 x128) fun x129 =>
  Get (store1V x129 (.int .i64 (-1)) H) fun H =>
  K5 [] H) (
  K5 [] H)) fun _ H =>
  R (.tuple #[(nth vs4 0), (nth vs4 1)]) H
def p93 : Plan := .seq (.leaf []) (.seq (.leaf []) (.join [4, 5] (.block (.loop [5, 6] (.block (.seq (.seq (.leaf [0, 1, 2, 3, 4, 5, 6, 7, 8, 9, 10, 11, 12, 13, 14, 15, 16, 17]) (.seq (.leaf []) (.cond (.seq (.leaf []) (.seq (.leaf [0, 1, 2, 3, 4, 5, 6, 7, 8, 9, 10, 11, 12, 13, 14, 15, 16]) (.seq (.leaf []) (.leaf [])))) (.leaf [])))) (.seq (.seq (.leaf []) (.cond (.seq (.leaf [0, 1, 2, 3, 4, 5, 6, 7, 8, 9, 10, 11, 12, 13]) (.seq (.leaf []) (.seq (.leaf []) (.leaf [])))) (.leaf []))) (.seq (.seq (.leaf [0, 2, 3, 4, 5, 1, 6, 7]) (.cond (.seq (.leaf []) (.seq (.leaf []) (.seq (.leaf []) (.leaf [])))) (.leaf []))) (.seq (.leaf [0, 1, 2, 3, 4, 5, 6, 7, 8, 9]) (.leaf [])))))))) (.join [] (.seq (.leaf []) (.seq (.leaf []) (.cond (.seq (.leaf []) (.leaf [])) (.leaf [])))) (.leaf []))))
theorem s93 {a0 a1 : Value} {H : Heap} {R : Value → Heap → Prop} (h : c93 a0 a1 H R) : CallsH Tryz.prog 93 #[a0, a1] H R :=
  callsH_of_eq p93 (fn := Tryz.f93) (c := Tryz.f93.body.getD .skip) (args := [a0, a1]) Tryz.func93 (by kernel_rfl) mixed (by kernel_rfl) (by kernel_rfl) (by kernel_rfl) h

end Go.Cps

/-
  Contracts of small functions over byte slices: Equal, HasPrefix, IndexByte, skipLWSPChar, the two looks at a boundary's line.
  Conditions: each contract's own.
-/
namespace Go.Cps
open Go Go.Proofs

theorem Join_direct {A : (List Value → Heap → Prop) → Prop} {B : List Value → Heap → Prop} (h : A B) : Join A B := ⟨B, h, fun _ _ h => h⟩

theorem toList_mk (l : List UInt8) : (⟨l.toArray⟩ : ByteArray).toList = l := by
  rw [ByteArray.toList_eq]

/- bytes.Equal -/
theorem equal_ok {v w : Value} {a b : List UInt8} {H : Heap} (ha : IsBytes H v a) (hb : IsBytes H w b) :
    CallsH Tryz.prog 82 #[v, w] H fun x H' => x = .bool (a == b) ∧ H' = H := by
  apply s82
  simp only [c82, ha.str, hb.str, Get_some, strV_eql, toList_mk, and_self]

/- bytes.HasPrefix -/
theorem hasPrefix_ok {v w : Value} {a b : List UInt8} {H : Heap} (ha : IsBytes H v a) (hb : IsBytes H w b) :
    CallsH Tryz.prog 58 #[v, w] H fun x H' => x = .bool (b.isPrefixOf a) ∧ H' = H := by
  apply s58
  simp only [c58, ha.len, hb.len, Get_some, arithV_geq]
  refine Join_direct ?_
  by_cases hle : b.length ≤ a.length
  · have hd : decide ((a.length : Int) ≥ (b.length : Int)) = true := by simp; omega
    rw [hd, Br_true]
    rcases ha with ⟨ba, o, c, rfl, hc, hcell⟩ | ⟨a', rfl, rfl⟩
    · have hsub := IsBytes.sub (.inl ⟨ba, o, c, rfl, hc, hcell⟩) (Nat.zero_le b.length) hle
      have e1 : (if c = 0 then (⟨ba, o, none⟩ : Addr) else ⟨ba, o + 0, none⟩) = ⟨ba, o, none⟩ := by split <;> rfl
      rw [e1] at hsub
      simp only [Nat.sub_zero, List.drop_zero] at hsub
      rw [sliceV_hi (by omega), Get_some]
      refine (equal_ok hsub hb).mono ?_
      rintro x H' ⟨rfl, rfl⟩
      simp only [pickV_bool, Get_some, if_true, nth_zero, and_true, Value.bool.injEq]
      rw [Bool.eq_iff_iff, beq_iff_eq, List.isPrefixOf_iff_prefix, List.prefix_iff_eq_take]
      exact eq_comm
    · have : b = [] := List.eq_nil_of_length_eq_zero (by simpa using hle)
      subst this
      simp only [List.length_nil]
      rw [show ((0 : Nat) : Int) = ((0 : Nat) : Int) from rfl, sliceV_hi (Nat.zero_le _), Get_some]
      refine (equal_ok (.inr ⟨a', rfl, rfl⟩) hb).mono ?_
      rintro x H' ⟨rfl, rfl⟩
      simp
  · have hd : decide ((a.length : Int) ≥ (b.length : Int)) = false := by simp; omega
    rw [hd, Br_false]
    simp only [pickV_bool, Get_some, Bool.false_eq_true, if_false, nth_zero, and_true, Value.bool.injEq]
    rw [eq_comm, ← Bool.not_eq_true, List.isPrefixOf_iff_prefix]
    exact fun h => hle h.length_le

/- bytes.IndexByte -/
theorem loadBytes_run {P : Program} {H : Heap} {b : Nat} (w : World) (hw : w.heap = H) : ∀ (l : List UInt8) (o : Nat) (acc : ByteArray), (∀ j, j < l.length → cellH H ⟨b, o + j, none⟩ = (l[j]?).map byteV) →
    (Extern.Bytes.loadBytes ⟨b, o, none⟩ l.length acc).run P w = .ok ⟨acc.data ++ l.toArray⟩ w
  | [], o, acc, _ => by simp [Extern.Bytes.loadBytes]
  | x :: r, o, acc, h => by
    have h0 := h 0 (by simp)
    simp only [Nat.add_zero, List.getElem?_cons_zero, Option.map_some] at h0
    have hl : (load ⟨b, o, none⟩).run P w = .ok (byteV x) w := by
      have : w.cell? ⟨b, o, none⟩ = some (byteV x) := by rw [cellH_eq, hw]; exact h0
      simp [load, Sem.run, this]
    have ih := loadBytes_run (P := P) w hw r (o + 1) (acc.push x) (fun j hj => by
      have := h (j + 1) (by simp; omega)
      rw [show o + 1 + j = o + (j + 1) by omega, this]
      simp)
    simp only [List.length_cons, Extern.Bytes.loadBytes, Sem.run_bind, hl, Result.andThen_ok, byteV, add_mk]
    have e : ((x.toNat : Int).toNat.toUInt8) = x := by simp
    rw [e, ih]
    simp [ByteArray.push]

def idx (l : List UInt8) (c : UInt8) : Int := match l.findIdx? (· == c) with | some i => i | none => -1

theorem find_range (p : UInt8 → Bool) : ∀ (l : List UInt8) (k : Nat) (f : Nat → UInt8), (∀ j, j < l.length → f (k + j) = l[j]!) →
    ((List.range' k l.length).find? fun i => p (f i)) = (l.findIdx? p).map (· + k)
  | [], k, f, _ => rfl
  | x :: r, k, f, h => by
    have h0 := h 0 (by simp)
    simp only [Nat.add_zero] at h0
    have ih := find_range p r (k + 1) f (fun j hj => by
      have := h (j + 1) (by simp; omega)
      rw [show k + 1 + j = k + (j + 1) by omega, this]
      simp)
    rw [List.length_cons, List.range'_succ, List.find?_cons, List.findIdx?_cons]
    have e : f k = x := by rw [h0]; rfl
    rw [e]
    cases hp : p x with
    | true => simp
    | false =>
      simp only [ih, Bool.false_eq_true, if_false]
      cases r.findIdx? p <;> simp; omega

theorem indexByte_ok {v : Value} {a : List UInt8} {H : Heap} (ha : IsBytes H v a) (c : UInt8) :
    CallsH Tryz.prog 109 #[v, .int .u8 c.toNat] H fun x H' => x = .int .i64 (idx a c) ∧ H' = H := by
  apply s109
  refine ⟨Tryz.f142, Extern.BytealgIndexByte.indexByte, Tryz.func142, by kernel_rfl, by kernel_rfl, by kernel_rfl, by kernel_rfl, ?_⟩
  intro w hw
  have hb : (Extern.Bytes.bytesOf v).run Tryz.prog w = .ok ⟨a.toArray⟩ w := by
    rcases ha with ⟨b, o, cp, rfl, _, hcell⟩ | ⟨a', rfl, rfl⟩
    · have := loadBytes_run (P := Tryz.prog) w hw a o .empty hcell
      simp only [Extern.Bytes.bytesOf, this]
      congr 2
      simp
    · cases a' <;> rfl
  have hc : (Extern.Bytes.asByte (.int .u8 c.toNat)).run Tryz.prog w = .ok c w := by simp [Extern.Bytes.asByte]
  have hf := find_range (· == c) a 0 (fun i => (⟨a.toArray⟩ : ByteArray)[i]!) (fun j hj => by
    rw [Nat.zero_add]
    have e1 : (ByteArray.mk a.toArray)[j]! = a[j] := getElem!_pos (ByteArray.mk a.toArray) j (by simpa [ByteArray.size] using hj)
    rw [e1, getElem!_pos a j hj])
  show match (do
      let b ← Extern.Bytes.bytesOf v
      let c ← Extern.Bytes.asByte (.int .u8 c.toNat)
      match (List.range b.size).find? fun i => b[i]! == c with
      | some i => pure (goInt i)
      | none => pure (goInt (-1)) : Sem Value).run Tryz.prog w with
    | .ok v w' => Same w w' ∧ v = .int .i64 (idx a c) ∧ w'.heap = H
    | .halt _ _ => False
  simp only [Sem.run_bind, hb, hc, Result.andThen_ok]
  have hs : (⟨a.toArray⟩ : ByteArray).size = a.length := by simp [ByteArray.size]
  rw [hs, List.range_eq_range', hf]
  unfold idx
  cases a.findIdx? (· == c) with
  | none => simp [goInt]; exact ⟨Same.refl w, hw⟩
  | some i => simp [goInt]; exact ⟨Same.refl w, hw⟩
end Go.Cps
