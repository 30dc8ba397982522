/-
  Words for proofs over the printed bodies: what each small operation gives on known values; heaps; slices of bytes.
  Conditions: none.
-/
import Derived.Test.YtfajmapajpfocaaGreatDoorC11
set_option linter.all false
namespace Go.Cps
open Go Go.Proofs

section basic
variable {α : Type} {K : Value → Prop} {H : Heap}
@[simp] theorem Get_some (v : α) (K : α → Prop) : Get (some v) K = K v := by simp [Get]
@[simp] theorem Get_none (K : α → Prop) : Get none K = False := by simp [Get]
@[simp] theorem Br_true (A B : Prop) : Br (.bool true) A B = A := by simp [Br]
@[simp] theorem Br_false (A B : Prop) : Br (.bool false) A B = B := by simp [Br]
theorem Br_intro {b : Bool} {A B : Prop} (h1 : b = true → A) (h2 : b = false → B) : Br (.bool b) A B := ⟨b, rfl, h1, h2⟩
@[simp] theorem add_mk (b o n : Nat) : (⟨b, o, none⟩ : Addr).add n = ⟨b, o + n, none⟩ := by
  unfold Addr.add
  split
  · rename_i h; subst h; rfl
  · rfl
@[simp] theorem nilV_ptr (a : Addr) : nilV (.pointer (some a)) = some (.pointer (some a)) := rfl
@[simp] theorem nilV_iface (t : TypeId) (v : Value) : nilV (.iface t v) = some (.iface t v) := rfl
@[simp] theorem fieldAddrV_ptr (n : Nat) (a : Addr) : fieldAddrV n (.pointer (some a)) = some (.pointer (some (a.add n))) := rfl
@[simp] theorem load1V_ptr (a : Addr) (H : Heap) : load1V (.pointer (some a)) H = cellH H a := rfl
@[simp] theorem Fld_ptr (n : Nat) (a : Addr) (H : Heap) (K : Value → Prop) : Fld n (.pointer (some a)) H K = Get (cellH H (a.add n)) K := by simp [Fld]
theorem cellH_of {b : Nat} {cs : Array Value} {t : TypeId} {f : Nat × Nat} (h : H[b]? = some (.cells cs t f)) (o : Nat) : cellH H ⟨b, o, none⟩ = cs[o]? := by simp [cellH, h]
@[simp] theorem pickV_bool (t : Bool) (x y : Value) : pickV (.bool t) x y = some (if t then x else y) := rfl
@[simp] theorem unV_not (b : Bool) : unV .not (.bool b) = some (.bool !b) := rfl
@[simp] theorem extractV_tuple (vs : Array Value) (i : Nat) : extractV (.tuple vs) i = vs[i]? := rfl
@[simp] theorem lenV_slice (a : Option Addr) (n c : Nat) : lenV (.slice a n c) = some (.int .i64 n) := rfl
@[simp] theorem lenStrV_string (s : ByteArray) : lenStrV (.string s) = some (.int .i64 s.size) := rfl
@[simp] theorem capV_slice (a : Option Addr) (n c : Nat) : capV (.slice a n c) = some (.int .i64 c) := rfl
@[simp] theorem nth_zero (v : Value) (r : List Value) : nth (v :: r) 0 = v := rfl
@[simp] theorem nth_succ (v : Value) (r : List Value) (i : Nat) : nth (v :: r) (i + 1) = nth r i := rfl
@[simp] theorem nth_one (u v : Value) (r : List Value) : nth (u :: v :: r) 1 = v := rfl
@[simp] theorem nth_two (u v w : Value) (r : List Value) : nth (u :: v :: w :: r) 2 = w := rfl
@[simp] theorem nth_three (u v w x : Value) (r : List Value) : nth (u :: v :: w :: x :: r) 3 = x := rfl
@[simp] theorem nth_four (u v w x y : Value) (r : List Value) : nth (u :: v :: w :: x :: y :: r) 4 = y := rfl
@[simp] theorem arithV_add (k : IntKind) (a b : Int) : arithV .add k (.int k a) (.int k b) = some (.int k (k.wrap (a + b))) := by simp [arithV]
@[simp] theorem arithV_sub (k : IntKind) (a b : Int) : arithV .sub k (.int k a) (.int k b) = some (.int k (k.wrap (a - b))) := by simp [arithV]
@[simp] theorem arithV_mul (k : IntKind) (a b : Int) : arithV .mul k (.int k a) (.int k b) = some (.int k (k.wrap (a * b))) := by simp [arithV]
@[simp] theorem arithV_eql (k : IntKind) (a b : Int) : arithV .eql k (.int k a) (.int k b) = some (.bool (a == b)) := by simp [arithV]
@[simp] theorem arithV_neq (k : IntKind) (a b : Int) : arithV .neq k (.int k a) (.int k b) = some (.bool (a != b)) := by simp [arithV]
@[simp] theorem arithV_lss (k : IntKind) (a b : Int) : arithV .lss k (.int k a) (.int k b) = some (.bool (a < b)) := by simp [arithV]
@[simp] theorem arithV_leq (k : IntKind) (a b : Int) : arithV .leq k (.int k a) (.int k b) = some (.bool (a ≤ b)) := by simp [arithV]
@[simp] theorem arithV_gtr (k : IntKind) (a b : Int) : arithV .gtr k (.int k a) (.int k b) = some (.bool (a > b)) := by simp [arithV]
@[simp] theorem arithV_geq (k : IntKind) (a b : Int) : arithV .geq k (.int k a) (.int k b) = some (.bool (a ≥ b)) := by simp [arithV]
@[simp] theorem nilV2_eql_nil : nilV2 .eql .nilIface .nilIface = some (.bool true) := rfl
@[simp] theorem nilV2_neq_nil : nilV2 .neq .nilIface .nilIface = some (.bool false) := rfl
@[simp] theorem nilV2_eql_iface (t : TypeId) (v : Value) : nilV2 .eql .nilIface (.iface t v) = some (.bool false) := rfl
@[simp] theorem nilV2_neq_iface (t : TypeId) (v : Value) : nilV2 .neq .nilIface (.iface t v) = some (.bool true) := rfl
@[simp] theorem nilV2_eql_ptr (p : Option Addr) : nilV2 .eql (.pointer none) (.pointer p) = some (.bool p.isNone) := rfl
@[simp] theorem nilV2_neq_ptr (p : Option Addr) : nilV2 .neq (.pointer none) (.pointer p) = some (.bool !p.isNone) := rfl
@[simp] theorem nilV2_eql_slice (p : Option Addr) (n c : Nat) : nilV2 .eql (.slice none 0 0) (.slice p n c) = some (.bool p.isNone) := rfl
@[simp] theorem nilV2_neq_slice (p : Option Addr) (n c : Nat) : nilV2 .neq (.slice none 0 0) (.slice p n c) = some (.bool !p.isNone) := rfl
@[simp] theorem strV_eql (a b : ByteArray) : strV .eql (.string a) (.string b) = some (.bool (a.toList == b.toList)) := rfl
@[simp] theorem intConvV_int (k k' : IntKind) (n : Int) : intConvV k (.int k' n) = some (.int k (k.wrap n)) := rfl
end basic

theorem elemAddr_of {b o n c size : Nat} {k : IntKind} {i : Int} (h0 : 0 ≤ i) (h : i < (n : Int)) : elemAddrV size (.slice (some ⟨b, o, none⟩) n c) (.int k i) = some (.pointer (some ⟨b, o + i.toNat * size, none⟩)) := by
  simp [elemAddrV, h0, h]

theorem CallsH.of {P : Program} {f : FuncId} {args : Array Value} {H : Heap} {K K' : Value → Heap → Prop} (h : CallsH P f args H K) (hk : ∀ v H', K v H' → K' v H') : CallsH P f args H K' := h.mono hk

/- heaps -/
def upd (H : Heap) (b : Nat) (o : Obj) : Heap := H.setIfInBounds b o
@[simp] theorem upd_size (H : Heap) (b : Nat) (o : Obj) : (upd H b o).size = H.size := by simp [upd]
theorem upd_same {H : Heap} {b : Nat} {o : Obj} (h : b < H.size) : (upd H b o)[b]? = some o := by simp [upd, h]
theorem upd_ne {H : Heap} {b c : Nat} {o : Obj} (h : b ≠ c) : (upd H b o)[c]? = H[c]? := by simp [upd, Array.getElem?_setIfInBounds_ne h]
theorem lt_of_some {H : Heap} {b : Nat} {o : Obj} (h : H[b]? = some o) : b < H.size := (Array.getElem?_eq_some_iff.1 h).1

/-- only the blocks of S may have changed -/
structure Frm (S : List Nat) (H H' : Heap) : Prop where
  size : H.size ≤ H'.size
  same : ∀ k, k < H.size → k ∉ S → H'[k]? = H[k]?
theorem Frm.refl (S : List Nat) (H : Heap) : Frm S H H := ⟨Nat.le_refl _, fun _ _ _ => rfl⟩
theorem Frm.trans {S : List Nat} {a b c : Heap} (h : Frm S a b) (k : Frm S b c) : Frm S a c :=
  ⟨Nat.le_trans h.size k.size, fun i hi hs => (k.same i (Nat.lt_of_lt_of_le hi h.size) hs).trans (h.same i hi hs)⟩
theorem Frm.mono {S S' : List Nat} {a b : Heap} (h : Frm S a b) (hs : ∀ x ∈ S, x ∈ S') : Frm S' a b := ⟨h.size, fun k hk hk' => h.same k hk (fun hx => hk' (hs k hx))⟩
theorem Frm.get {S : List Nat} {H H' : Heap} (h : Frm S H H') {b : Nat} {o : Obj} (hb : H[b]? = some o) (hs : b ∉ S) : H'[b]? = some o := (h.same b (lt_of_some hb) hs).trans hb
theorem Frm.push (S : List Nat) (H : Heap) (o : Obj) : Frm S H (H.push o) := ⟨by simp, fun k hk _ => by rw [Array.getElem?_push]; rw [if_neg (by omega)]⟩
theorem Frm.upd {S : List Nat} {H : Heap} {b : Nat} (o : Obj) (hb : b ∈ S) : Frm S H (upd H b o) := ⟨by simp, fun k _ hk => upd_ne (fun e => hk (e ▸ hb))⟩

theorem push_same (H : Heap) (o : Obj) : (H.push o)[H.size]? = some o := by simp
theorem push_old {H : Heap} {o x : Obj} {b : Nat} (h : H[b]? = some x) : (H.push o)[b]? = some x := by
  rw [Array.getElem?_push, if_neg (by have := lt_of_some h; omega)]; exact h

/- a store of one cell into a block known whole -/
theorem setH_eq_upd {H : Heap} {b o : Nat} {cs : Array Value} {t : TypeId} {f : Nat × Nat} (h : H[b]? = some (.cells cs t f)) (v : Value) : setH H ⟨b, o, none⟩ v = upd H b (.cells (cs.setIfInBounds o v) t f) := by
  apply Array.ext_getElem?
  intro k
  simp only [setH, upd, Array.getElem?_modify, Array.getElem?_setIfInBounds]
  by_cases hk : b = k
  · subst hk
    rw [if_pos rfl, if_pos rfl, if_pos (lt_of_some h), h]
    rfl
  · rw [if_neg hk, if_neg hk]

theorem store1V_of {H : Heap} {b o : Nat} {cs : Array Value} {t : TypeId} (h : H[b]? = some (.cells cs t (0, 0))) (ho : o < cs.size) {v : Value} (hv : isOne v = true) :
    store1V (.pointer (some ⟨b, o, none⟩)) v H = some (upd H b (.cells (cs.setIfInBounds o v) t (0, 0))) := by
  have h1 : (cellH H ⟨b, o, none⟩).isSome = true := by rw [cellH_of h]; simp [ho]
  have h2 : frozenH H ⟨b, o, none⟩ = false := by simp [frozenH, h]
  simp [store1V, storesH, hv, h1, h2, setH_eq_upd h]

/- byte lists in memory -/
def byteV (b : UInt8) : Value := .int .u8 b.toNat
theorem toByte_byteV (b : UInt8) : toByte? (byteV b) = some b := by simp [toByte?, byteV]
theorem bytesOfCells_map : ∀ (l : List UInt8), bytesOfCells (l.map byteV) = some l
  | [] => rfl
  | b :: r => by simp [bytesOfCells, toByte_byteV, bytesOfCells_map r]

theorem cellsH_getElem {H : Heap} {b o : Nat} : ∀ (n i : Nat) (l : List Value), cellsH H ⟨b, o, none⟩ i n = some l ↔ l.length = n ∧ ∀ j, j < n → cellH H ⟨b, o + (i + j), none⟩ = l[j]?
  | 0, i, l => by
    simp only [cellsH, Option.some.injEq]
    constructor
    · rintro rfl; exact ⟨rfl, fun j hj => by omega⟩
    · intro h; exact (List.eq_nil_of_length_eq_zero h.1).symm
  | n + 1, i, l => by
    simp only [cellsH, add_mk]
    constructor
    · intro h
      split at h <;> try contradiction
      rename_i v hv
      cases hr : cellsH H ⟨b, o, none⟩ (i + 1) n with
      | none => simp [hr] at h
      | some r =>
        simp only [hr, Option.map_some, Option.some.injEq] at h
        subst h
        obtain ⟨h1, h2⟩ := (cellsH_getElem n (i + 1) r).1 hr
        refine ⟨by simp [h1], fun j hj => ?_⟩
        cases j with
        | zero => simpa using hv
        | succ j =>
          have := h2 j (by omega)
          rw [show o + (i + (j + 1)) = o + (i + 1 + j) by omega, this]
          simp
    · rintro ⟨h1, h2⟩
      cases l with
      | nil => simp at h1
      | cons v r =>
        have h0 := h2 0 (by omega)
        simp only [Nat.add_zero, List.getElem?_cons_zero] at h0
        rw [h0]
        simp only []
        have hr : cellsH H ⟨b, o, none⟩ (i + 1) n = some r := (cellsH_getElem n (i + 1) r).2 ⟨by simpa using h1, fun j hj => by
          have := h2 (j + 1) (by omega)
          rw [show o + (i + 1 + j) = o + (i + (j + 1)) by omega, this]
          simp⟩
        rw [hr]
        rfl

/-- a slice of bytes that reads as l -/
def IsBytes (H : Heap) (v : Value) (l : List UInt8) : Prop :=
  (∃ b o c, v = .slice (some ⟨b, o, none⟩) l.length c ∧ l.length ≤ c ∧ ∀ j, j < l.length → cellH H ⟨b, o + j, none⟩ = (l[j]?).map byteV) ∨ (v = .slice none 0 0 ∧ l = [])

theorem IsBytes.str {H : Heap} {v : Value} {l : List UInt8} (h : IsBytes H v l) : bytesV v H = some (.string ⟨l.toArray⟩) := by
  rcases h with ⟨b, o, c, rfl, _, hc⟩ | ⟨rfl, rfl⟩
  · have : cellsH H ⟨b, o, none⟩ 0 l.length = some (l.map byteV) := (cellsH_getElem _ _ _).2 ⟨by simp, fun j hj => by rw [Nat.zero_add, hc j hj]; simp⟩
    simp [bytesV, this, bytesOfCells_map]
  · rfl
theorem IsBytes.len {H : Heap} {v : Value} {l : List UInt8} (h : IsBytes H v l) : lenV v = some (.int .i64 l.length) := by
  rcases h with ⟨b, o, c, rfl, _, _⟩ | ⟨rfl, rfl⟩ <;> rfl

theorem IsBytes.cast {H H' : Heap} {v : Value} {l : List UInt8} (h : IsBytes H v l) (hk : ∀ b o c, v = .slice (some ⟨b, o, none⟩) l.length c → H'[b]? = H[b]?) : IsBytes H' v l := by
  rcases h with ⟨b, o, c, rfl, h1, h2⟩ | ⟨rfl, rfl⟩
  · refine .inl ⟨b, o, c, rfl, h1, fun j hj => ?_⟩
    rw [← h2 j hj]
    simp [cellH, hk b o c rfl]
  · exact .inr ⟨rfl, rfl⟩

/-- a part of it -/
theorem IsBytes.sub {H : Heap} {b o n c : Nat} {l : List UInt8} (h : IsBytes H (.slice (some ⟨b, o, none⟩) n c) l) {lo hi : Nat} (h1 : lo ≤ hi) (h2 : hi ≤ l.length) :
    IsBytes H (.slice (some (if c = lo then ⟨b, o, none⟩ else ⟨b, o + lo, none⟩)) (hi - lo) (c - lo)) ((l.take hi).drop lo) := by
  rcases h with ⟨b', o', c', he, hc, hcell⟩ | ⟨he, _⟩
  · cases he
    have hlen : ((l.take hi).drop lo).length = hi - lo := by simp; omega
    by_cases hcl : c = lo
    · rw [if_pos hcl]
      refine .inl ⟨b, o, c - lo, by rw [hlen], by rw [hlen]; omega, fun j hj => by rw [hlen] at hj; omega⟩
    · rw [if_neg hcl]
      refine .inl ⟨b, o + lo, c - lo, by rw [hlen], by rw [hlen]; omega, fun j hj => ?_⟩
      rw [hlen] at hj
      rw [Nat.add_assoc, hcell (lo + j) (by omega)]
      rw [List.getElem?_drop, List.getElem?_take, if_pos (by omega)]
  · cases he

theorem sliceV_of {a : Option Addr} {n c size : Nat} {lo hi : Nat} (h1 : lo ≤ hi) (h2 : hi ≤ c) (k k' : IntKind) : sliceV size (.slice a n c) (some (.int k lo)) (some (.int k' hi)) none = some (.slice (if c = lo then a else a.map (·.add (lo * size))) (hi - lo) (c - lo)) := by
  have e1 : boundV (some (.int k' hi)) n c = some hi := by simp [boundV]; omega
  have e2 : boundV (some (.int k lo)) 0 hi = some lo := by simp [boundV]; omega
  have e0 : boundV none c c = some c := rfl
  simp [sliceV, boundsV, e0, e1, e2]
theorem sliceV_lo {a : Option Addr} {n c size : Nat} {lo : Nat} (h1 : lo ≤ n) (k : IntKind) : sliceV size (.slice a n c) (some (.int k lo)) none none = some (.slice (if c = lo then a else a.map (·.add (lo * size))) (n - lo) (c - lo)) := by
  have e1 : boundV none n c = some n := rfl
  have e2 : boundV (some (.int k lo)) 0 n = some lo := by simp [boundV]; omega
  have e0 : boundV none c c = some c := rfl
  simp [sliceV, boundsV, e0, e1, e2]
theorem sliceV_hi {a : Option Addr} {n c size : Nat} {hi : Nat} (h2 : hi ≤ c) (k : IntKind) : sliceV size (.slice a n c) none (some (.int k hi)) none = some (.slice a hi c) := by
  have e1 : boundV (some (.int k hi)) n c = some hi := by simp [boundV]; omega
  have e2 : boundV none 0 hi = some 0 := rfl
  have e0 : boundV none c c = some c := rfl
  simp only [sliceV, boundsV, e0, e1, e2, Nat.zero_mul, Nat.sub_zero, Option.some.injEq, Value.slice.injEq, and_true]
  split
  · rfl
  · cases a with
    | none => rfl
    | some a => simp [Addr.add]
end Go.Cps
