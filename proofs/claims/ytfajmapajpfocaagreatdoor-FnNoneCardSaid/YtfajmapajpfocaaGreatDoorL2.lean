/-
  Contracts of small functions over byte slices: Equal, HasPrefix, IndexByte, skipLWSPChar, the two looks at a boundary's line.
  Conditions: each contract's own.
-/
import Derived.Test.YtfajmapajpfocaaGreatDoorL1
import Derived.Test.YtfajmapajpfocaaGreatDoorG1
import Derived.Laws.Strings
set_option linter.all false
namespace Go.Cps
open Go Go.Proofs

theorem Join_direct {A : (List Value → Heap → Prop) → Prop} {B : List Value → Heap → Prop} (h : A B) : Join A B := ⟨B, h, fun _ _ h => h⟩

theorem toList_mk (l : List UInt8) : (⟨l.toArray⟩ : ByteArray).toList = l := by
  rw [ByteArray.toList_eq]

/- bytes.Equal -/
theorem equal_ok {v w : Value} {a b : List UInt8} {H : Heap} (ha : IsBytes H v a) (hb : IsBytes H w b) :
    CallsH Tryz.prog 82 #[v, w] H fun x H' => x = .bool (a == b) ∧ H' = H := by
  apply s82
  simp only [c82, ha.str, hb.str, Get_some, strV_eql, toList_mk, and_self]

/- bytes.HasPrefix -/
theorem hasPrefix_ok {v w : Value} {a b : List UInt8} {H : Heap} (ha : IsBytes H v a) (hb : IsBytes H w b) :
    CallsH Tryz.prog 58 #[v, w] H fun x H' => x = .bool (b.isPrefixOf a) ∧ H' = H := by
  apply s58
  simp only [c58, ha.len, hb.len, Get_some, arithV_geq]
  refine Join_direct ?_
  by_cases hle : b.length ≤ a.length
  · have hd : decide ((a.length : Int) ≥ (b.length : Int)) = true := by simp; omega
    rw [hd, Br_true]
    rcases ha with ⟨ba, o, c, rfl, hc, hcell⟩ | ⟨rfl, rfl⟩
    · have hsub := IsBytes.sub (.inl ⟨ba, o, c, rfl, hc, hcell⟩) (Nat.zero_le b.length) hle
      have e1 : (if c = 0 then (⟨ba, o, none⟩ : Addr) else ⟨ba, o + 0, none⟩) = ⟨ba, o, none⟩ := by split <;> rfl
      rw [e1] at hsub
      simp only [Nat.sub_zero, List.drop_zero] at hsub
      rw [sliceV_hi (by omega), Get_some]
      refine (equal_ok hsub hb).mono ?_
      rintro x H' ⟨rfl, rfl⟩
      simp only [pickV_bool, Get_some, if_true, nth_zero, and_true, Value.bool.injEq]
      rw [Bool.eq_iff_iff, beq_iff_eq, List.isPrefixOf_iff_prefix, List.prefix_iff_eq_take]
      exact eq_comm
    · have : b = [] := List.eq_nil_of_length_eq_zero (by simpa using hle)
      subst this
      simp only [List.length_nil]
      rw [show ((0 : Nat) : Int) = ((0 : Nat) : Int) from rfl, sliceV_hi (Nat.zero_le _), Get_some]
      refine (equal_ok (.inr ⟨rfl, rfl⟩) hb).mono ?_
      rintro x H' ⟨rfl, rfl⟩
      simp
  · have hd : decide ((a.length : Int) ≥ (b.length : Int)) = false := by simp; omega
    rw [hd, Br_false]
    simp only [pickV_bool, Get_some, Bool.false_eq_true, if_false, nth_zero, and_true, Value.bool.injEq]
    rw [eq_comm, ← Bool.not_eq_true, List.isPrefixOf_iff_prefix]
    exact fun h => hle h.length_le

/- bytes.IndexByte -/
theorem loadBytes_run {P : Program} {H : Heap} {b : Nat} (w : World) (hw : w.heap = H) : ∀ (l : List UInt8) (o : Nat) (acc : ByteArray), (∀ j, j < l.length → cellH H ⟨b, o + j, none⟩ = (l[j]?).map byteV) →
    (Extern.Bytes.loadBytes ⟨b, o, none⟩ l.length acc).run P w = .ok ⟨acc.data ++ l.toArray⟩ w
  | [], o, acc, _ => by simp [Extern.Bytes.loadBytes]
  | x :: r, o, acc, h => by
    have h0 := h 0 (by simp)
    simp only [Nat.add_zero, List.getElem?_cons_zero, Option.map_some] at h0
    have hl : (load ⟨b, o, none⟩).run P w = .ok (byteV x) w := by
      have : w.cell? ⟨b, o, none⟩ = some (byteV x) := by rw [cellH_eq, hw]; exact h0
      simp [load, Sem.run, this]
    have ih := loadBytes_run (P := P) w hw r (o + 1) (acc.push x) (fun j hj => by
      have := h (j + 1) (by simp; omega)
      rw [show o + 1 + j = o + (j + 1) by omega, this]
      simp)
    simp only [List.length_cons, Extern.Bytes.loadBytes, Sem.run_bind, hl, Result.andThen_ok, byteV, add_mk]
    have e : ((x.toNat : Int).toNat.toUInt8) = x := by simp
    rw [e, ih]
    simp [ByteArray.push]

def idx (l : List UInt8) (c : UInt8) : Int := match l.findIdx? (· == c) with | some i => i | none => -1

theorem find_range (p : UInt8 → Bool) : ∀ (l : List UInt8) (k : Nat) (f : Nat → UInt8), (∀ j, j < l.length → f (k + j) = l[j]!) →
    ((List.range' k l.length).find? fun i => p (f i)) = (l.findIdx? p).map (· + k)
  | [], k, f, _ => rfl
  | x :: r, k, f, h => by
    have h0 := h 0 (by simp)
    simp only [Nat.add_zero] at h0
    have ih := find_range p r (k + 1) f (fun j hj => by
      have := h (j + 1) (by simp; omega)
      rw [show k + 1 + j = k + (j + 1) by omega, this]
      simp)
    rw [List.length_cons, List.range'_succ, List.find?_cons, List.findIdx?_cons]
    have e : f k = x := by rw [h0]; rfl
    rw [e]
    cases hp : p x with
    | true => simp
    | false =>
      simp only [ih, Bool.false_eq_true, if_false]
      cases r.findIdx? p <;> simp; omega

theorem indexByte_ok {v : Value} {a : List UInt8} {H : Heap} (ha : IsBytes H v a) (c : UInt8) :
    CallsH Tryz.prog 109 #[v, .int .u8 c.toNat] H fun x H' => x = .int .i64 (idx a c) ∧ H' = H := by
  apply s109
  refine ⟨Tryz.f142, Extern.BytealgIndexByte.indexByte, Tryz.func142, by kernel_rfl, by kernel_rfl, by kernel_rfl, by kernel_rfl, ?_⟩
  intro w hw
  have hb : (Extern.Bytes.bytesOf v).run Tryz.prog w = .ok ⟨a.toArray⟩ w := by
    rcases ha with ⟨b, o, cp, rfl, _, hcell⟩ | ⟨rfl, rfl⟩
    · have := loadBytes_run (P := Tryz.prog) w hw a o .empty hcell
      simp only [Extern.Bytes.bytesOf, this]
      congr 2
      simp
    · rfl
  have hc : (Extern.Bytes.asByte (.int .u8 c.toNat)).run Tryz.prog w = .ok c w := by simp [Extern.Bytes.asByte]
  have hf := find_range (· == c) a 0 (fun i => (⟨a.toArray⟩ : ByteArray)[i]!) (fun j hj => by
    rw [Nat.zero_add]
    have e1 : (ByteArray.mk a.toArray)[j]! = a[j] := getElem!_pos (ByteArray.mk a.toArray) j (by simpa [ByteArray.size] using hj)
    rw [e1, getElem!_pos a j hj])
  show match (do
      let b ← Extern.Bytes.bytesOf v
      let c ← Extern.Bytes.asByte (.int .u8 c.toNat)
      match (List.range b.size).find? fun i => b[i]! == c with
      | some i => pure (goInt i)
      | none => pure (goInt (-1)) : Sem Value).run Tryz.prog w with
    | .ok v w' => Same w w' ∧ v = .int .i64 (idx a c) ∧ w'.heap = H
    | .halt _ _ => False
  simp only [Sem.run_bind, hb, hc, Result.andThen_ok]
  have hs : (⟨a.toArray⟩ : ByteArray).size = a.length := by simp [ByteArray.size]
  rw [hs, List.range_eq_range', hf]
  unfold idx
  cases a.findIdx? (· == c) with
  | none => simp [goInt]; exact ⟨Same.refl w, hw⟩
  | some i => simp [goInt]; exact ⟨Same.refl w, hw⟩
end Go.Cps
