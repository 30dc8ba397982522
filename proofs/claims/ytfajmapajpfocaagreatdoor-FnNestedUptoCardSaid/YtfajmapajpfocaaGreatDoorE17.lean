/-
  A part of the proof (its texts: L31, L32, L33): each text says below what it proves.
  Conditions: each contract's own.
-/
import Derived.Test.YtfajmapajpfocaaGreatDoorE16
set_option linter.all false
/-
  bytes.TrimLeft with the cutset of a space and a tab.
  Conditions: each contract's own.
-/
namespace Go.Cps
open Go Go.Proofs

theorem cellsH_all {H : Heap} {b : Nat} {cs : Array Value} {t : TypeId} {f : Nat × Nat} (h : H[b]? = some (.cells cs t f)) : cellsH H ⟨b, 0, none⟩ 0 cs.size = some cs.toList := by
  refine (cellsH_getElem _ _ _).2 ⟨by simp, fun j hj => ?_⟩
  rw [cellH_of h]
  simp
theorem loadNV_of {H : Heap} {b : Nat} {cs : Array Value} {t : TypeId} {f : Nat × Nat} (h : H[b]? = some (.cells cs t f)) {n : Nat} (hn : cs.size = n) : loadNV n (.pointer (some ⟨b, 0, none⟩)) H = some (.agg cs) := by
  subst hn
  simp [loadNV, cellsH_all h]
theorem putAt_all {cs vs : Array Value} (h : cs.size = vs.size) : putAt cs 0 vs.toList = vs := by
  apply Array.ext_getElem?
  intro i
  rw [putAt_get _ _ _ _ (by simp; omega)]
  by_cases hi : i < vs.size
  · rw [if_pos ⟨Nat.zero_le _, by simpa using hi⟩]; simp
  · rw [if_neg (by simp; omega), Array.getElem?_eq_none (by omega), Array.getElem?_eq_none (by omega)]
theorem storeNV_of {H : Heap} {b : Nat} {cs vs : Array Value} {t : TypeId} (h : H[b]? = some (.cells cs t (0, 0))) {n : Nat} (hn : vs.size = n) (hs : cs.size = n) (h1 : ∀ v ∈ vs, isOne v = true) : storeNV n (.pointer (some ⟨b, 0, none⟩)) (.agg vs) H = some (upd H b (.cells vs t (0, 0))) := by
  subst hn
  have := stores_upd vs.toList H b 0 0 cs t h (by simp; omega) (fun v hv => h1 v (by simpa using hv))
  rw [Nat.zero_add, putAt_all hs] at this
  simp only [storeNV, if_true]
  exact this
theorem upd_self {H : Heap} {b : Nat} {o : Obj} (h : H[b]? = some o) : upd H b o = H := by
  apply Array.ext_getElem?
  intro k
  by_cases hk : b = k
  · subst hk; rw [upd_same (lt_of_some h), h]
  · rw [upd_ne hk]

def zzB (n : Nat) : Array Value := Array.replicate n (.bool false)
theorem zzB_size (n : Nat) : (zzB n).size = n := by simp [zzB]
theorem zzB_get (n i : Nat) : (zzB n)[i]? = if i < n then some (.bool false) else none := by simp [zzB, Array.getElem?_replicate]
def asZ : Array Value := zzB 256
def asI (i : Nat) : Array Value := match i with
  | 0 => asZ
  | 1 => asZ.setIfInBounds 32 (.bool true)
  | _ => (asZ.setIfInBounds 32 (.bool true)).setIfInBounds 9 (.bool true)
theorem asZ_size : asZ.size = 256 := zzB_size 256
theorem asI_size (i : Nat) : (asI i).size = 256 := by
  match i with
  | 0 => exact asZ_size
  | 1 => exact (Array.size_setIfInBounds ..).trans asZ_size
  | i + 2 => exact ((Array.size_setIfInBounds ..).trans (Array.size_setIfInBounds ..)).trans asZ_size
def AllOne (cs : Array Value) : Prop := ∀ (j : Nat) v, cs[j]? = some v → isOne v = true
theorem AllOne.set {cs : Array Value} (h : AllOne cs) (o : Nat) {v : Value} (hv : isOne v = true) : AllOne (cs.setIfInBounds o v) := by
  intro j u hj
  rw [Array.getElem?_setIfInBounds] at hj
  split at hj
  · split at hj
    · cases hj; exact hv
    · cases hj
  · exact h j u hj
theorem AllOne.mem {cs : Array Value} (h : AllOne cs) : ∀ v ∈ cs, isOne v = true := by
  intro v hv
  obtain ⟨j, hj, rfl⟩ := Array.getElem_of_mem hv
  exact h j _ (Array.getElem?_eq_getElem hj)
theorem zzB_one (n : Nat) : AllOne (zzB n) := by
  intro j v hj
  rw [zzB_get] at hj
  split at hj
  · cases hj; rfl
  · cases hj
theorem asZ_one : AllOne asZ := zzB_one 256
theorem rep_asZ : Array.replicate 256 (Value.bool false) = asZ := rfl
theorem asI_one (i : Nat) : ∀ v ∈ asI i, isOne v = true := by
  match i with
  | 0 => exact asZ_one.mem
  | 1 => exact (asZ_one.set 32 rfl).mem
  | i + 2 => exact ((asZ_one.set 32 rfl).set 9 rfl).mem
theorem asI_get (c : UInt8) : (asI 2)[c.toNat]? = some (.bool (lws c)) := by
  have hlt := c.toNat_lt
  have h32 : (32 = c.toNat) ↔ c = 32 := ⟨fun h => UInt8.toNat_inj.1 h.symm, fun h => by subst h; rfl⟩
  have h9 : (9 = c.toNat) ↔ c = 9 := ⟨fun h => UInt8.toNat_inj.1 h.symm, fun h => by subst h; rfl⟩
  have hz := asZ_size
  show ((asZ.setIfInBounds 32 (.bool true)).setIfInBounds 9 (.bool true))[c.toNat]? = _
  rw [Array.getElem?_setIfInBounds, Array.getElem?_setIfInBounds, Array.size_setIfInBounds, hz]
  by_cases a9 : c = 9
  · rw [if_pos (h9.2 a9), if_pos (by omega), a9]; rfl
  · rw [if_neg (fun h => a9 (h9.1 h))]
    by_cases a32 : c = 32
    · rw [if_pos (h32.2 a32), if_pos (by omega), a32]; rfl
    · rw [if_neg (fun h => a32 (h32.1 h)), asZ, zzB_get, if_pos (by omega)]
      have hf : lws c = false := by simp [lws, a9, a32]
      rw [hf]

theorem makeSet_ok {H : Heap} : CallsH Tryz.prog 180 #[.string ⟨#[32, 9]⟩] H fun x H' => x = .tuple #[.agg (asI 2), .bool true] ∧ Frm [] H H' := by
  apply s180
  simp only [c180, New]
  have hb := push_same H (.cells asZ 269 (0, 0))
  have f0 : Frm [] H (H.push (.cells asZ 269 (0, 0))) := Frm.push _ _ _
  rw [rep_asZ]
  generalize H.push (.cells asZ 269 (0, 0)) = H0 at *
  have hl : lenStrV (.string ⟨#[32, 9]⟩) = some (.int .i64 2) := rfl
  have i0 : strIndexV (.string ⟨#[32, 9]⟩) (.int .i64 ((0 : Nat) : Int)) = some (.int .u8 32) := rfl
  have i1 : strIndexV (.string ⟨#[32, 9]⟩) (.int .i64 ((1 : Nat) : Int)) = some (.int .u8 9) := rfl
  refine ⟨fun n vs H' => ∃ i : Nat, vs = [.int .i64 i] ∧ n = 2 - i ∧ i ≤ 2 ∧ H'[H.size]? = some (.cells (asI i) 269 (0, 0)) ∧ Frm [] H H', ⟨_, 0, rfl, rfl, by omega, hb, f0⟩, ?_⟩
  rintro n vs H1 ⟨i, rfl, rfl, hi, hb1, f1⟩
  simp only [hl, Fld_ptr, add_mk, Nat.zero_add, List.getElem?_toArray, List.getElem?_cons_succ, List.getElem?_cons_zero, Get_some, Br_true, Br_false, nth_zero, nth_one, nth_two, extractV_tuple, fieldAddrV_ptr, nilV_ptr, load1V_ptr, pickV_bool, unV_not, lenV_slice, capV_slice, arithV_add, arithV_sub, arithV_eql, arithV_neq, arithV_lss, arithV_leq, arithV_gtr, arithV_geq, intConvV_int]
  refine Br_intro (fun hlt => ?_) (fun hlt => ?_)
  · have hlt' : i < 2 := by simp at hlt; omega
    have step : ∀ (c : Nat) (hc : c < 128) (hs : (asI i).setIfInBounds c (.bool true) = asI (i + 1)), Get (arithV .geq .u8 (.int .u8 (c : Int)) (.int .u8 128)) fun x16 =>
        Br x16 (
        Get (loadNV 256 (.pointer (some ⟨H.size, 0, none⟩)) H1) fun x17 =>
        Get (storeNV 256 (.pointer (some ⟨H.size, 0, none⟩)) x17 H1) fun H2 =>
        Get (loadNV 256 (.pointer (some ⟨H.size, 0, none⟩)) H2) fun r2 =>
        (Value.tuple #[r2, (.bool false)] = .tuple #[.agg (asI 2), .bool true] ∧ Frm [] H H2)) (
        Get (arrAddrV 256 1 (.pointer (some ⟨H.size, 0, none⟩)) (.int .u8 (c : Int))) fun x19 =>
        Get (store1V x19 (.bool true) H1) fun H2 =>
        Get (arithV .add .i64 (.int .i64 i) (.int .i64 1)) fun x11 =>
        ∃ m, m < 2 - i ∧ ∃ i' : Nat, [x11] = [.int .i64 i'] ∧ m = 2 - i' ∧ i' ≤ 2 ∧ H2[H.size]? = some (.cells (asI i') 269 (0, 0)) ∧ Frm [] H H2) := by
      intro c hc hs
      have d : decide ((c : Int) ≥ 128) = false := by simp; omega
      have ha : arrAddrV 256 1 (.pointer (some ⟨H.size, 0, none⟩)) (.int .u8 (c : Int)) = some (.pointer (some ⟨H.size, c, none⟩)) := by
        simp only [arrAddrV]
        rw [if_pos ⟨by omega, by omega⟩]
        simp
      have e1 : IntKind.i64.wrap ((i : Int) + 1) = ((i + 1 : Nat) : Int) := by rw [wrap_i64 (by omega) (by omega)]; omega
      simp only [arithV_add, arithV_sub, arithV_eql, arithV_neq, arithV_lss, arithV_leq, arithV_gtr, arithV_geq, intConvV_int, Fld_ptr, add_mk, Nat.zero_add, List.getElem?_toArray, List.getElem?_cons_succ, List.getElem?_cons_zero, Get_some, Br_true, Br_false, nth_zero, nth_one, nth_two, extractV_tuple, fieldAddrV_ptr, nilV_ptr, load1V_ptr, pickV_bool, unV_not, lenV_slice, capV_slice, d, ha]
      refine Store_of hb1 (by rw [asI_size]; omega) rfl fun H2 hb2 f2 z2 => ?_
      rw [hs] at hb2
      simp only [e1]
      exact ⟨_, by omega, i + 1, rfl, rfl, by omega, hb2, ⟨by have := f1.size; omega, fun k hk hn => by rw [f2.same k (by have := f1.size; omega) (by simp; omega), f1.same k hk hn]⟩⟩
    have hcase : i = 0 ∨ i = 1 := by omega
    rcases hcase with rfl | rfl
    · rw [i0, Get_some]
      have hs := step 32 (by omega) rfl
      rw [show (((32 : Nat)) : Int) = 32 from rfl] at hs
      simp only [arithV_add, arithV_sub, arithV_eql, arithV_neq, arithV_lss, arithV_leq, arithV_gtr, arithV_geq, intConvV_int, Fld_ptr, add_mk, Nat.zero_add, List.getElem?_toArray, List.getElem?_cons_succ, List.getElem?_cons_zero, Get_some, Br_true, Br_false, nth_zero, nth_one, nth_two, extractV_tuple, fieldAddrV_ptr, nilV_ptr, load1V_ptr, pickV_bool, unV_not, lenV_slice, capV_slice] at hs ⊢
      exact hs
    · rw [i1, Get_some]
      have hs := step 9 (by omega) rfl
      rw [show (((9 : Nat)) : Int) = 9 from rfl] at hs
      simp only [arithV_add, arithV_sub, arithV_eql, arithV_neq, arithV_lss, arithV_leq, arithV_gtr, arithV_geq, intConvV_int, Fld_ptr, add_mk, Nat.zero_add, List.getElem?_toArray, List.getElem?_cons_succ, List.getElem?_cons_zero, Get_some, Br_true, Br_false, nth_zero, nth_one, nth_two, extractV_tuple, fieldAddrV_ptr, nilV_ptr, load1V_ptr, pickV_bool, unV_not, lenV_slice, capV_slice] at hs ⊢
      exact hs
  · have hi2 : i = 2 := by simp only [decide_eq_false_iff_not] at hlt; omega
    subst hi2
    rw [loadNV_of hb1 (asI_size 2), Get_some, storeNV_of hb1 (asI_size 2) (asI_size 2) (asI_one 2), upd_self hb1, Get_some, loadNV_of hb1 (asI_size 2), Get_some]
    exact ⟨rfl, f1⟩

theorem contains_ok {b : Nat} {c : UInt8} {t : TypeId} {H : Heap} (h : H[b]? = some (.cells (asI 2) t (0, 0))) : CallsH Tryz.prog 186 #[.pointer (some ⟨b, 0, none⟩), byteV c] H fun x H' => x = .bool (lws c) ∧ H' = H := by
  have hlt := c.toNat_lt
  apply s186
  have ha : arrAddrV 256 1 (.pointer (some ⟨b, 0, none⟩)) (byteV c) = some (.pointer (some ⟨b, c.toNat, none⟩)) := by
    simp only [arrAddrV, byteV]
    rw [if_pos ⟨by omega, by omega⟩]
    simp
  simp only [c186, nilV_ptr, Get_some, ha, load1V_ptr, cellH_of h, asI_get, and_self]

theorem trimLeft_ok {v : Value} {l : List UInt8} {H : Heap} (hv : IsBytes H v l) (hb : ∀ x, blk v = some x → x < H.size) (hl : l.length < 2 ^ 40) :
    CallsH Tryz.prog 172 #[v, .string ⟨#[32, 9]⟩] H fun x H' => IsBytes H' x (l.dropWhile lws) ∧ Frm [] H H' := by
  apply s172
  have hsz : strV .eql (.string ⟨#[32, 9]⟩) (.string ⟨#[]⟩) = some (.bool false) := by
    rw [strV_eql, show (⟨#[32, 9]⟩ : ByteArray).toList = [32, 9] from toList_mk [32, 9], show (⟨#[]⟩ : ByteArray).toList = [] from toList_mk []]; rfl
  have hl2 : lenStrV (.string ⟨#[32, 9]⟩) = some (.int .i64 2) := rfl
  have ez : (((l.length : Nat) : Int) == 0) = l.isEmpty := by
    cases l with
    | nil => rfl
    | cons a r => rw [beq_eq_false_iff_ne.2 (by simp; omega)]; rfl
  simp only [c172, hv.len, Fld_ptr, add_mk, Nat.zero_add, List.getElem?_toArray, List.getElem?_cons_succ, List.getElem?_cons_zero, Get_some, Br_true, Br_false, nth_zero, nth_one, nth_two, extractV_tuple, fieldAddrV_ptr, nilV_ptr, load1V_ptr, pickV_bool, unV_not, lenV_slice, capV_slice, arithV_add, arithV_sub, arithV_eql, arithV_neq, arithV_lss, arithV_leq, arithV_gtr, arithV_geq, intConvV_int, ez]
  refine Br_intro (fun h0 => ?_) (fun h0 => ?_)
  · have : l = [] := by simpa using h0
    subst this
    exact ⟨.inr ⟨_, rfl, rfl⟩, Frm.refl _ _⟩
  simp only [hsz, hl2, Fld_ptr, add_mk, Nat.zero_add, List.getElem?_toArray, List.getElem?_cons_succ, List.getElem?_cons_zero, Get_some, Br_true, Br_false, nth_zero, nth_one, nth_two, extractV_tuple, fieldAddrV_ptr, nilV_ptr, load1V_ptr, pickV_bool, unV_not, lenV_slice, capV_slice, arithV_add, arithV_sub, arithV_eql, arithV_neq, arithV_lss, arithV_leq, arithV_gtr, arithV_geq, intConvV_int]
  refine Join_direct ?_
  simp only [Fld_ptr, add_mk, Nat.zero_add, List.getElem?_toArray, List.getElem?_cons_succ, List.getElem?_cons_zero, Get_some, Br_true, Br_false, nth_zero, nth_one, nth_two, extractV_tuple, fieldAddrV_ptr, nilV_ptr, load1V_ptr, pickV_bool, unV_not, lenV_slice, capV_slice, Bool.false_eq_true, if_false, show ((2 : Int) == 1) = false from rfl]
  refine makeSet_ok.mono ?_
  rintro x H1 ⟨rfl, f1⟩
  simp only [Fld_ptr, add_mk, Nat.zero_add, List.getElem?_toArray, List.getElem?_cons_succ, List.getElem?_cons_zero, Get_some, Br_true, Br_false, nth_zero, nth_one, nth_two, extractV_tuple, fieldAddrV_ptr, nilV_ptr, load1V_ptr, pickV_bool, unV_not, lenV_slice, capV_slice, New]
  rw [rep_asZ]
  have hb1 := push_same H1 (.cells asZ 269 (0, 0))
  rw [storeNV_of hb1 (asI_size 2) (asI_size 0) (asI_one 2), Get_some]
  have f2 : Frm [] H1 (upd (H1.push (.cells asZ 269 (0, 0))) H1.size (.cells (asI 2) 269 (0, 0))) := ⟨by simp, fun k hk _ => by
    rw [upd_ne (by omega), Array.getElem?_push, if_neg (by omega)]⟩
  have hb2 : (upd (H1.push (.cells asZ 269 (0, 0))) H1.size (.cells (asI 2) 269 (0, 0)))[H1.size]? = some (.cells (asI 2) 269 (0, 0)) := upd_same (by simp)
  generalize upd (H1.push (.cells asZ 269 (0, 0))) H1.size (.cells (asI 2) 269 (0, 0)) = H2 at *
  have hv2 : IsBytes H2 v l := hv.frm (f1.trans f2) (by simp)
  apply CallsH.mono (K := fun x H' => IsBytes H' x (l.dropWhile lws) ∧ H' = H2)
  · apply s181
    unfold c181
    refine ⟨fun vs H' => ∃ u, vs = [u] ∧ IsBytes H2 u (l.dropWhile lws) ∧ H' = H2, ?_, ?_⟩
    · refine ⟨fun n vs H' => ∃ u m, vs = [u] ∧ n = m.length ∧ H' = H2 ∧ IsBytes H2 u m ∧ m.dropWhile lws = l.dropWhile lws ∧ m.length ≤ l.length, ⟨_, v, l, rfl, rfl, rfl, hv2, rfl, Nat.le_refl _⟩, ?_⟩
      rintro n vs H3 ⟨u, m, rfl, rfl, rfl, hu, hm, hml⟩
      simp only [hu.len, Fld_ptr, add_mk, Nat.zero_add, List.getElem?_toArray, List.getElem?_cons_succ, List.getElem?_cons_zero, Get_some, Br_true, Br_false, nth_zero, nth_one, nth_two, extractV_tuple, fieldAddrV_ptr, nilV_ptr, load1V_ptr, pickV_bool, unV_not, lenV_slice, capV_slice, arithV_add, arithV_sub, arithV_eql, arithV_neq, arithV_lss, arithV_leq, arithV_gtr, arithV_geq, intConvV_int]
      refine Br_intro (fun hp => ?_) (fun hp => ?_)
      · have hp' : 0 < m.length := by simpa using hp
        obtain ⟨a, ha, hca⟩ := elem_at hu (i := 0) hp' (by omega)
        rw [show ((0 : Nat) : Int) = 0 from rfl] at ha
        simp only [ha, Fld_ptr, add_mk, Nat.zero_add, List.getElem?_toArray, List.getElem?_cons_succ, List.getElem?_cons_zero, Get_some, Br_true, Br_false, nth_zero, nth_one, nth_two, extractV_tuple, fieldAddrV_ptr, nilV_ptr, load1V_ptr, pickV_bool, unV_not, lenV_slice, capV_slice, hca]
        refine (contains_ok hb2).mono ?_
        rintro x H4 ⟨rfl, rfl⟩
        cases m with
        | nil => simp at hp'
        | cons c r =>
          simp only [List.getElem_cons_zero, Fld_ptr, add_mk, Nat.zero_add, List.getElem?_toArray, List.getElem?_cons_succ, List.getElem?_cons_zero, Get_some, Br_true, Br_false, nth_zero, nth_one, nth_two, extractV_tuple, fieldAddrV_ptr, nilV_ptr, load1V_ptr, pickV_bool, unV_not, lenV_slice, capV_slice]
          refine Br_intro (fun hc => ?_) (fun hc => ?_)
          · refine ⟨u, rfl, ?_, trivial⟩
            rw [← hm, List.dropWhile_cons, if_neg (by simpa using hc)]
            exact hu
          · obtain ⟨y, hy, hyb⟩ := hu.from' (lo := 1) (by simp) .i64
            rw [show ((1 : Nat) : Int) = 1 from rfl] at hy
            simp only [hy, Fld_ptr, add_mk, Nat.zero_add, List.getElem?_toArray, List.getElem?_cons_succ, List.getElem?_cons_zero, Get_some, Br_true, Br_false, nth_zero, nth_one, nth_two, extractV_tuple, fieldAddrV_ptr, nilV_ptr, load1V_ptr, pickV_bool, unV_not, lenV_slice, capV_slice]
            refine ⟨_, by simp, y, r, rfl, rfl, trivial, by simpa using hyb, ?_, by simp at hml; omega⟩
            rw [← hm, List.dropWhile_cons, if_pos (by simpa using hc)]
      · have : m = [] := by
          cases m with
          | nil => rfl
          | cons a r => simp at hp
        subst this
        exact ⟨u, rfl, by rw [← hm]; exact hu, trivial⟩
    · rintro _ H3 ⟨u, rfl, hu, rfl⟩
      simp only [Fld_ptr, add_mk, Nat.zero_add, List.getElem?_toArray, List.getElem?_cons_succ, List.getElem?_cons_zero, Get_some, Br_true, Br_false, nth_zero, nth_one, nth_two, extractV_tuple, fieldAddrV_ptr, nilV_ptr, load1V_ptr, pickV_bool, unV_not, lenV_slice, capV_slice, arithV_add, arithV_sub, arithV_eql, arithV_neq, arithV_lss, arithV_leq, arithV_gtr, arithV_geq, intConvV_int, hu.len]
      refine Br_intro (fun h1 => ?_) (fun h1 => ⟨hu, trivial⟩)
      have : l.dropWhile lws = [] := List.eq_nil_of_length_eq_zero (by simpa using h1)
      rw [this]
      exact ⟨.inr ⟨_, rfl, rfl⟩, trivial⟩
  · rintro x H3 ⟨hx, rfl⟩
    exact ⟨hx, f1.trans f2⟩
end Go.Cps

/-
  readContinuedLineSlice of a line that does not go on.
  Conditions: the line has a colon; behind it stands a byte that is no blank.
-/
namespace Go.Cps
open Go Go.Proofs

theorem body169 : hasBody Tryz.prog 169 = true := by kernel_rfl

/-- an owned slice of whatever bytes -/
def OwnE (H : Heap) (k : Option Nat) (sl : Value) : Prop := match k with
  | none => sl = .slice none 0 0
  | some g => ∃ (n : Nat) (cells : Array Value), sl = .slice (some ⟨g, 0, none⟩) n cells.size ∧ H[g]? = some (.cells cells 5 (0, 0)) ∧ n ≤ cells.size
theorem OwnB.toE {H : Heap} {k : Option Nat} {sl : Value} {l : List UInt8} (h : OwnB H k sl l) : OwnE H k sl := by
  cases k with
  | none => exact h.1
  | some g => obtain ⟨cells, h1, h2, _, h3⟩ := h; exact ⟨_, cells, h1, h2, h3⟩
theorem OwnE.frm {H H' : Heap} {k : Option Nat} {sl : Value} {X : List Nat} (h : OwnE H k sl) (f : Frm X H H') (hk : ∀ g, k = some g → g ∉ X) : OwnE H' k sl := by
  cases k with
  | none => exact h
  | some g =>
    obtain ⟨n, cells, h1, hg, h2⟩ := h
    exact ⟨n, cells, h1, f.get hg (hk g rfl), h2⟩
theorem OwnE.put {H H' : Heap} {g o : Nat} {sl : Value} {cs : Array Value} {vs : List Value} (h : OwnE H (some g) sl) (hg : H[g]? = some (.cells cs 5 (0, 0))) (hg' : H'[g]? = some (.cells (putAt cs o vs) 5 (0, 0))) : OwnE H' (some g) sl := by
  obtain ⟨n, cells, h1, h2, h3⟩ := h
  rw [hg] at h2
  cases h2
  exact ⟨n, _, by rw [h1, putAt_size], hg', by rw [putAt_size]; exact h3⟩
theorem OwnE.empty {H : Heap} {k : Option Nat} {sl : Value} (h : OwnE H k sl) : ∃ y, (∀ kk : IntKind, sliceV 1 sl none (some (.int kk 0)) none = some y) ∧ OwnB H k y [] := by
  cases k with
  | none =>
    rw [show sl = .slice none 0 0 from h]
    exact ⟨.slice none 0 0, fun _ => rfl, rfl, rfl⟩
  | some g =>
    obtain ⟨n, cells, rfl, hg, hle⟩ := h
    refine ⟨.slice (some ⟨g, 0, none⟩) 0 cells.size, fun kk => ?_, cells, rfl, hg, rfl, Nat.zero_le _⟩
    exact sliceV_hi (hi := 0) (Nat.zero_le _) kk

structure Cont (S : Stk) (tr : Nat) (l : List UInt8) (q : List UInt8) (u : Value) (s' : St) (k' : Option Nat) (H' : Heap) : Prop where
  rd : RdAt S s' H'
  rest : s'.rest S = q
  bytes : IsBytes H' u l
  tr_ : ∃ tbuf', TR S tr tbuf' H' ∧ OwnE H' k' tbuf'
  where_ : Rng u S.bf s'.r ∨ OwnB H' k' u l

theorem contLine_ok {S : Stk} {s : St} {H : Heap} {tr : Nat} {k : Option Nat} {tbuf : Value} {p q : List UInt8} {c : UInt8} {lim : Int} (ht : TR S tr tbuf H) (ho : OwnE H k tbuf) (htr : tr ∉ S.ids) (hkt : ∀ g, k = some g → g ∉ tr :: S.ids)
    (h : RdAt S s H) (h4 : Full4 H) (h40 : 4 ∉ S.ids) (hvt : blk S.v ≠ some tr) (hvk : ∀ g, k = some g → blk S.v ≠ some g) (htr0 : tr ≠ 0) (hk0 : ∀ g, k = some g → g ≠ 0) (hr : s.rest S = p ++ 13 :: 10 :: c :: q) (hp : 10 ∉ p) (hl : p.length ≤ 4000) (hcol : 58 ∈ p) (hc : lws c = false) (hlim : 10000 ≤ lim) (hlim2 : lim ≤ 2 ^ 40) :
    CallsH Tryz.prog 168 #[.pointer (some ⟨tr, 0, none⟩), .int .i64 lim, .func (.func 169) #[] #[]] H fun x H' => ∃ u s' k', x = .tuple #[u, .nilIface] ∧ Cont S tr (trimB p) (c :: q) u s' k' H' ∧ Frm (tr :: k.toList ++ S.ids) H H' ∧ (k' = k ∨ ∃ g, k' = some g ∧ H.size ≤ g) := by
  have hpn : p ≠ [] := by rintro rfl; simp at hcol
  have hpl : 0 < p.length := List.length_pos_iff.2 hpn
  apply s168
  have hnf : nilV2 .eql .nilFunc (.func (.func 169) #[] #[]) = some (.bool false) := rfl
  simp only [c168, hnf, Fld_ptr, add_mk, Nat.zero_add, List.getElem?_toArray, List.getElem?_cons_succ, List.getElem?_cons_zero, Get_some, Br_true, Br_false, nth_zero, nth_one, nth_two, extractV_tuple, fieldAddrV_ptr, nilV_ptr, load1V_ptr, pickV_bool, unV_not, lenV_slice, capV_slice]
  refine (lineSlice_ok ht h h4 h40 hr hp hl (by omega)).mono ?_
  rintro x H1 ⟨u0, s1, rfl, h1, hu0, hr1, hrng, f1, z1⟩
  have ht1 : TR S tr tbuf H1 := f1.get ht htr
  have hne : (((p.length : Nat) : Int) == 0) = false := by rw [beq_eq_false_iff_ne]; omega
  simp only [Fld_ptr, add_mk, Nat.zero_add, List.getElem?_toArray, List.getElem?_cons_succ, List.getElem?_cons_zero, Get_some, Br_true, Br_false, nth_zero, nth_one, nth_two, extractV_tuple, fieldAddrV_ptr, nilV_ptr, load1V_ptr, pickV_bool, unV_not, lenV_slice, capV_slice, arithV_add, arithV_sub, arithV_eql, arithV_neq, arithV_lss, arithV_leq, arithV_gtr, arithV_geq, intConvV_int, nilV2_neq_nil, hu0.len, hne]
  refine ⟨169, #[], #[], rfl, body169, ?_⟩
  refine (colon_ok hu0 hcol).mono ?_
  rintro x H1 ⟨rfl, rfl⟩
  simp only [nilV2_neq_nil, Fld_ptr, add_mk, Nat.zero_add, List.getElem?_toArray, List.getElem?_cons_succ, List.getElem?_cons_zero, Get_some, Br_true, Br_false, nth_zero, nth_one, nth_two, extractV_tuple, fieldAddrV_ptr, nilV_ptr, load1V_ptr, pickV_bool, unV_not, lenV_slice, capV_slice]
  have hubf : ∀ {H2 : Heap} {s2 : St}, RdAt S s2 H2 → s2.buf = s1.buf → IsBytes H2 u0 p := by
    intro H2 s2 h2 hb
    refine hu0.cast fun b o cc e => ?_
    have hbb : b = S.bf := by
      obtain ⟨o', n', c', he, _⟩ := hrng
      rw [he] at e
      cases e
      rfl
    rw [hbb, h2.hbf, h1.hbf, hb]
  have ho1 := ho.frm f1 (fun g hg => by have := hkt g hg; simp at this; exact this.2)
  refine ⟨fun _ H2 => ∃ s2, RdAt S s2 H2 ∧ s2.buf = s1.buf ∧ s2.r = s1.r ∧ s2.rest S = c :: q ∧ Frm S.ids H1 H2, ?_, ?_⟩
  · simp only [Fld_ptr, add_mk, Nat.zero_add, List.getElem?_toArray, List.getElem?_cons_succ, List.getElem?_cons_zero, Get_some, Br_true, Br_false, nth_zero, nth_one, nth_two, extractV_tuple, fieldAddrV_ptr, nilV_ptr, load1V_ptr, pickV_bool, unV_not, lenV_slice, capV_slice, cellH_of ht1]
    refine (buffered_ok h1).mono ?_
    rintro x H2 ⟨rfl, rfl⟩
    simp only [Fld_ptr, add_mk, Nat.zero_add, List.getElem?_toArray, List.getElem?_cons_succ, List.getElem?_cons_zero, Get_some, Br_true, Br_false, nth_zero, nth_one, nth_two, extractV_tuple, fieldAddrV_ptr, nilV_ptr, load1V_ptr, pickV_bool, unV_not, lenV_slice, capV_slice, arithV_add, arithV_sub, arithV_eql, arithV_neq, arithV_lss, arithV_leq, arithV_gtr, arithV_geq, intConvV_int]
    refine Br_intro (fun hb => ?_) (fun hb => ⟨s1, h1, rfl, rfl, hr1, Frm.refl _ _⟩)
    have hb2 : 2 ≤ s1.w - s1.r := by simp at hb; omega
    simp only [Fld_ptr, add_mk, Nat.zero_add, List.getElem?_toArray, List.getElem?_cons_succ, List.getElem?_cons_zero, Get_some, Br_true, Br_false, nth_zero, nth_one, nth_two, extractV_tuple, fieldAddrV_ptr, nilV_ptr, load1V_ptr, pickV_bool, unV_not, lenV_slice, capV_slice, cellH_of ht1]
    refine (peek_ok h1 (n := 2) (by omega)).mono ?_
    rintro x H3 ⟨u2, s3, rfl, hpk⟩
    obtain ⟨eb, er, ew, ee, ep⟩ := hpk.same hb2
    have hrl := h1.rest_len
    have hpb := hpk.bytes
    have hlen2 : ((s1.rest S).take 2).length = 2 := by rw [List.length_take]; omega
    have h3s : RdAt S s3 H3 ∧ s3.buf = s1.buf ∧ s3.r = s1.r ∧ s3.rest S = c :: q ∧ Frm S.ids H2 H3 := ⟨hpk.rd, eb, er, hpk.rest.trans hr1, hpk.frm⟩
    have hu3 := hubf hpk.rd eb
    obtain ⟨a0, ha0, hc0⟩ := elem_at hpb (i := 0) (by omega) (by omega)
    obtain ⟨a1, ha1, hc1⟩ := elem_at hpb (i := 1) (by omega) (by omega)
    generalize ((s1.rest S).take 2)[0]'(by omega) = y0 at hc0
    generalize ((s1.rest S).take 2)[1]'(by omega) = y1 at hc1
    have hlv := hpb.len
    rw [hlen2] at hlv
    rw [show ((0 : Nat) : Int) = 0 from rfl] at ha0
    rw [show ((1 : Nat) : Int) = 1 from rfl] at ha1
    simp only [Fld_ptr, add_mk, Nat.zero_add, List.getElem?_toArray, List.getElem?_cons_succ, List.getElem?_cons_zero, Get_some, Br_true, Br_false, nth_zero, nth_one, nth_two, extractV_tuple, fieldAddrV_ptr, nilV_ptr, load1V_ptr, pickV_bool, unV_not, lenV_slice, capV_slice]
    refine ⟨fun vs H' => (∃ b, vs = [.bool b]) ∧ H' = H3, ?_, ?_⟩
    · have g2 : decide ((((2 : Nat)) : Int) > 0) = true := by decide
      have g3 : (((2 : Nat) : Int) == 2) = true := by decide
      simp only [hlv, Fld_ptr, add_mk, Nat.zero_add, List.getElem?_toArray, List.getElem?_cons_succ, List.getElem?_cons_zero, Get_some, Br_true, Br_false, nth_zero, nth_one, nth_two, extractV_tuple, fieldAddrV_ptr, nilV_ptr, load1V_ptr, pickV_bool, unV_not, lenV_slice, capV_slice, arithV_add, arithV_sub, arithV_eql, arithV_neq, arithV_lss, arithV_leq, arithV_gtr, arithV_geq, intConvV_int, g2, ha0, hc0]
      refine letterB_ok.mono ?_
      rintro x H4 ⟨rfl, rfl⟩
      refine Br_intro (fun hh => ?_) (fun hh => ?_)
      · simp only [Fld_ptr, add_mk, Nat.zero_add, List.getElem?_toArray, List.getElem?_cons_succ, List.getElem?_cons_zero, Get_some, Br_true, Br_false, nth_zero, nth_one, nth_two, extractV_tuple, fieldAddrV_ptr, nilV_ptr, load1V_ptr, pickV_bool, unV_not, lenV_slice, capV_slice, if_true]
        exact ⟨⟨_, rfl⟩, trivial⟩
      · simp only [Fld_ptr, add_mk, Nat.zero_add, List.getElem?_toArray, List.getElem?_cons_succ, List.getElem?_cons_zero, Get_some, Br_true, Br_false, nth_zero, nth_one, nth_two, extractV_tuple, fieldAddrV_ptr, nilV_ptr, load1V_ptr, pickV_bool, unV_not, lenV_slice, capV_slice, if_true, Bool.false_eq_true, if_false, ha0, hc0, byteV, arithV_add, arithV_sub, arithV_eql, arithV_neq, arithV_lss, arithV_leq, arithV_gtr, arithV_geq, intConvV_int, hlv, g3, ha1, hc1]
        refine Br_intro (fun hh => ?_) (fun hh => ?_)
        · exact ⟨⟨_, rfl⟩, trivial⟩
        · refine Br_intro (fun hh => ?_) (fun hh => ?_)
          · exact ⟨⟨_, rfl⟩, trivial⟩
          · exact ⟨⟨_, rfl⟩, trivial⟩
    · rintro _ H3 ⟨⟨b, rfl⟩, rfl⟩
      simp only [Fld_ptr, add_mk, Nat.zero_add, List.getElem?_toArray, List.getElem?_cons_succ, List.getElem?_cons_zero, Get_some, Br_true, Br_false, nth_zero, nth_one, nth_two, extractV_tuple, fieldAddrV_ptr, nilV_ptr, load1V_ptr, pickV_bool, unV_not, lenV_slice, capV_slice]
      refine Br_intro (fun hh => ?_) (fun hh => ⟨s3, h3s⟩)
      refine (trim_ok hu3 (by omega)).mono ?_
      rintro y H4 ⟨rfl, hy, hsub⟩
      have f13 := f1.trans hpk.frm
      refine ⟨y, s3, k, rfl, ⟨hpk.rd, h3s.2.2.2.1, hy, ⟨tbuf, hpk.frm.get ht1 htr, ho1.frm hpk.frm (fun g hg => by have := hkt g hg; simp at this; exact this.2)⟩, .inl (hsub.2 _ _ (by rw [er]; exact hrng))⟩, f13.mono (fun x hx => by simp [hx]), .inl rfl⟩
  · rintro _ H2 ⟨s2, h2, hb2, hrr2, hr2, f2⟩
    have ht2 : TR S tr tbuf H2 := f2.get ht1 htr
    have hu2 := hubf h2 hb2
    have ho2 := ho1.frm f2 (fun g hg => by have := hkt g hg; simp at this; exact this.2)
    obtain ⟨sl0, hsl0, hsl⟩ := ho2.empty
    simp only [Fld_ptr, add_mk, Nat.zero_add, List.getElem?_toArray, List.getElem?_cons_succ, List.getElem?_cons_zero, Get_some, Br_true, Br_false, nth_zero, nth_one, nth_two, extractV_tuple, fieldAddrV_ptr, nilV_ptr, load1V_ptr, pickV_bool, unV_not, lenV_slice, capV_slice, cellH_of ht2, hsl0 .i64]
    refine (trim_ok hu2 (by omega)).mono ?_
    rintro y H2 ⟨rfl, hy, hsub⟩
    have htl : (trimB p).length ≤ p.length := by
      unfold trimB
      rw [List.length_reverse]
      refine Nat.le_trans (List.IsSuffix.length_le (List.dropWhile_suffix _)) ?_
      rw [List.length_reverse]
      exact List.IsSuffix.length_le (List.dropWhile_suffix _)
    refine ⟨⟨by rw [cellH_of ht2]; rfl, trivial⟩, ?_⟩
    refine append_own hsl hy (by simp; omega) fun k' sl' H3 ho3 f3 hk3 => ?_
    have hkn : ∀ x ∈ k.toList, x ∉ tr :: S.ids := fun x hx => hkt x (by simpa using hx)
    have ht3 : TR S tr tbuf H3 := f3.get ht2 (fun hm => hkn _ hm (by simp))
    have h3 : RdAt S s2 H3 := h2.frm f3 (fun x hx hm => hkn _ hm (by simp [hx])) (fun x hx hm => hvk x (by simpa using hm) hx) (fun hm => hk0 0 (by simpa using hm) rfl)
    have hk'n : ∀ g, k' = some g → g ∉ tr :: S.ids := by
      intro g hg
      rcases hk3 with e | ⟨g', e, hge⟩
      · exact hkt g (by rw [← e, hg])
      · rw [hg] at e; cases e
        intro hm
        have hlt : g < H2.size := by
          rcases List.mem_cons.1 hm with rfl | hm
          · exact lt_of_some ht2
          · simp only [Stk.ids, List.mem_cons, List.not_mem_nil, or_false] at hm
            rcases hm with rfl | rfl | rfl | rfl
            · exact lt_of_some h2.hb
            · exact lt_of_some h2.hbf
            · exact lt_of_some h2.hst
            · exact lt_of_some h2.hbr
        omega
    have hone : isOne sl' = true := by
      cases k' with
      | none => rw [ho3.1]; rfl
      | some g => obtain ⟨cells, e, _⟩ := ho3; rw [e]; rfl
    refine Store_of ht3 (by simp) hone fun H4 hb4 f4 z4 => ?_
    simp only [List.setIfInBounds_toArray, List.set_cons_succ, List.set_cons_zero] at hb4
    have ht4 : TR S tr sl' H4 := hb4
    have h4' : RdAt S s2 H4 := h3.frm f4 (fun x hx => by
      rw [List.mem_singleton]; intro e; exact htr (e ▸ hx)) (fun x hx => by
      rw [List.mem_singleton]; intro e; exact hvt (by rw [hx, e])) (by rw [List.mem_singleton]; exact fun e => htr0 e.symm)
    have ho4 := ho3.frm f4 (fun g hg => by
      have := hk'n g hg
      simp at this ⊢
      exact this.1)
    have d1 : decide (lim < 0) = false := by simp; omega
    refine Join_direct ?_
    simp only [arithV_add, arithV_sub, arithV_eql, arithV_neq, arithV_lss, arithV_leq, arithV_gtr, arithV_geq, intConvV_int, Fld_ptr, add_mk, Nat.zero_add, List.getElem?_toArray, List.getElem?_cons_succ, List.getElem?_cons_zero, Get_some, Br_true, Br_false, nth_zero, nth_one, nth_two, extractV_tuple, fieldAddrV_ptr, nilV_ptr, load1V_ptr, pickV_bool, unV_not, lenV_slice, capV_slice, d1, cellH_of ht4, ho4.bytes.len]
    refine ⟨fun n vs H' => vs = [] ∧ H' = H4, ⟨0, rfl, rfl⟩, ?_⟩
    rintro n vs H4 ⟨rfl, rfl⟩
    refine (skipSpace_ok ht4 htr h4' hr2 hc).mono ?_
    rintro x H5 ⟨s5, rfl, h5, hr5, f5, z5⟩
    have ht5 : TR S tr sl' H5 := f5.get ht4 htr
    have ho5 := ho4.frm f5 (fun g hg => by have := hk'n g hg; simp at this; exact this.2)
    have d2 : decide ((0 : Int) > 0) = false := by decide
    simp only [arithV_add, arithV_sub, arithV_eql, arithV_neq, arithV_lss, arithV_leq, arithV_gtr, arithV_geq, intConvV_int, Fld_ptr, add_mk, Nat.zero_add, List.getElem?_toArray, List.getElem?_cons_succ, List.getElem?_cons_zero, Get_some, Br_true, Br_false, nth_zero, nth_one, nth_two, extractV_tuple, fieldAddrV_ptr, nilV_ptr, load1V_ptr, pickV_bool, unV_not, lenV_slice, capV_slice, d2, cellH_of ht5]
    refine ⟨sl', s5, k', rfl, ⟨h5, hr5, by simpa using ho5.bytes, ⟨sl', ht5, ho5.toE⟩, .inr (by simpa using ho5)⟩, ?_, ?_⟩
    · have fa := (f1.trans f2).mono (S' := tr :: k.toList ++ S.ids) (fun x hx => by simp [hx])
      have fb := f3.mono (S' := tr :: k.toList ++ S.ids) (fun x hx => by simp at hx ⊢; simp [hx])
      have fc := f4.mono (S' := tr :: k.toList ++ S.ids) (fun x hx => by simp at hx; simp [hx])
      have fd := f5.mono (S' := tr :: k.toList ++ S.ids) (fun x hx => by simp [hx])
      exact ((fa.trans fb).trans fc).trans fd
    · rcases hk3 with e | ⟨g, e, hge⟩
      · exact .inl e
      · exact .inr ⟨g, e, by have := f1.size; have := f2.size; omega⟩
end Go.Cps

/-
  Go maps with strings as keys and slices of strings as values: lookup and update.
  Conditions: no entry is ever taken out.
-/
namespace Go.Cps
open Go Go.Proofs

def entsOf (es : Array MapEntry) (ents : List (List UInt8 × Value)) : Prop := es.toList.map (fun e => (e.key, e.val)) = ents.map fun p => (strVal p.1, p.2)
/-- a map's block: its entries in the order in which they came -/
def MapAt (H : Heap) (m : Nat) (ents : List (List UInt8 × Value)) : Prop := ∃ es clock, H[m]? = some (.map es clock) ∧ entsOf es ents ∧ es.toList.map (·.born) = List.range es.size ∧ clock = es.size
theorem MapAt.frm {H H' : Heap} {m : Nat} {ents : List (List UInt8 × Value)} {X : List Nat} (h : MapAt H m ents) (f : Frm X H H') (hm : m ∉ X) : MapAt H' m ents := by
  obtain ⟨es, c, h1, h2⟩ := h
  exact ⟨es, c, f.get h1 hm, h2⟩
theorem mapAt_new (H : Heap) : MapAt (H.push (.map #[] 0)) H.size [] := ⟨#[], 0, push_same _ _, rfl, rfl, rfl⟩

def getE (k : List UInt8) : List (List UInt8 × Value) → Option Value
  | [] => none
  | p :: r => if p.1 = k then some p.2 else getE k r
def setE (k : List UInt8) (v : Value) : List (List UInt8 × Value) → List (List UInt8 × Value)
  | [] => [(k, v)]
  | p :: r => if p.1 = k then (p.1, v) :: r else p :: setE k v r
def posE (k : List UInt8) : List (List UInt8 × Value) → Option Nat
  | [] => none
  | p :: r => if p.1 = k then some 0 else (posE k r).map (· + 1)

theorem bytes_beq (a b : List UInt8) : ((⟨a.toArray⟩ : ByteArray) == ⟨b.toArray⟩) = decide (a = b) := by
  show (a.toArray == b.toArray) = decide (a = b)
  rw [Bool.eq_iff_iff, beq_iff_eq, decide_eq_true_eq]
  constructor
  · intro h
    have := congrArg Array.toList h
    simpa using this
  · rintro rfl; rfl

theorem findNow_ents (k : List UInt8) : ∀ (es : List MapEntry) (ents : List (List UInt8 × Value)) (i : Nat), es.map (fun e => (e.key, e.val)) = ents.map (fun p => (strVal p.1, p.2)) →
    Instr.findNow .string (strVal k) es i = some ((posE k ents).bind fun j => (getE k ents).map fun v => (i + j, v))
  | [], [], i, _ => rfl
  | [], _ :: _, _, h => by simp at h
  | _ :: _, [], _, h => by simp at h
  | e :: es, p :: ents, i, h => by
    simp only [List.map_cons, List.cons.injEq, Prod.mk.injEq] at h
    obtain ⟨⟨h1, h2⟩, h3⟩ := h
    have ih := findNow_ents k es ents (i + 1) h3
    simp only [Instr.findNow, h1, strVal, Instr.sameNow, bytes_beq]
    by_cases hk : k = p.1
    · subst hk
      simp [posE, getE, h2]
    · rw [decide_eq_false hk]
      simp only [strVal] at ih
      rw [ih]
      have hk2 : ¬ p.1 = k := fun e => hk e.symm
      simp only [posE, getE, if_neg hk2]
      cases posE k ents with
      | none => rfl
      | some j => simp; cases getE k ents <;> simp; omega

theorem posE_some {k : List UInt8} : ∀ {ents : List (List UInt8 × Value)}, (posE k ents).isSome = (getE k ents).isSome
  | [] => rfl
  | p :: r => by
    simp only [posE, getE]
    split
    · rfl
    · rw [Option.isSome_map]; exact posE_some

theorem und106 : Tryz.prog.underlying 106 = some (.map 9 88) := by kernel_rfl
theorem und66 : Tryz.prog.underlying 66 = some (.map 9 88) := by kernel_rfl
theorem zero88 (w : World) : (zeroValue 88).run Tryz.prog w = .ok (.slice none 0 0) w := by kernel_rfl
theorem check9 (e : Bool) (s : ByteArray) (w : World) : (Instr.checkKey e 10000 9 (.string s)).run Tryz.prog w = .ok () w := by
  have h : ∀ n : Nat, (Instr.checkKey e (n + 1) 9 (.string s)).run Tryz.prog w = .ok () w := fun n => by
    simp [Instr.checkKey, run_underlying und9]
  exact h 9999

theorem find_run {k : List UInt8} {es : Array MapEntry} {ents : List (List UInt8 × Value)} (h : entsOf es ents) (w : World) : (Instr.findKey 9 (strVal k) es.toList).run Tryz.prog w = .ok ((posE k ents).bind fun j => (getE k ents).map fun v => (j, v)) w := by
  have := findNow_ents k es.toList ents 0 h
  simp only [Nat.zero_add] at this
  simp [Instr.findKey, run_underlying und9, this]

theorem lookup_of {T : TypeId} (hT : Tryz.prog.underlying T = some (.map 9 88)) {m : Nat} {k : List UInt8} {ents : List (List UInt8 × Value)} {H : Heap} {K : Value → Heap → Prop} (h : MapAt H m ents) :
    ExecV Tryz.prog (Instr.lookup T (.map (some m)) (strVal k) false) H K = K ((getE k ents).getD (.slice none 0 0)) H := by
  apply ExecV.eq
  intro w hw
  subst hw
  obtain ⟨es, c, h1, h2, _, _⟩ := h
  have hf := find_run (k := k) h2 w
  have hs : (posE k ents).isSome = (getE k ents).isSome := posE_some
  have hc := check9 es.isEmpty ⟨k.toArray⟩ w
  simp only [Instr.lookup, Sem.run_bind, run_underlying hT, Result.andThen_ok, getObj, Sem.run, h1, Result.andThen, hf]
  have hp : (pure es : Sem (Array MapEntry)).run Tryz.prog w = .ok es w := rfl
  rw [hp]
  simp only []
  rw [show strVal k = .string ⟨k.toArray⟩ from rfl, hc]
  simp only []
  rw [show (Value.string ⟨k.toArray⟩) = strVal k from rfl, hf]
  cases hg : getE k ents with
  | none =>
    rw [hg] at hs
    have : posE k ents = none := by simpa using hs
    rw [this]
    simp [Result.andThen, zero88]
  | some v =>
    rw [hg] at hs
    obtain ⟨j, hj⟩ := Option.isSome_iff_exists.1 (by simpa using hs)
    rw [hj]
    simp [Result.andThen]

theorem setE_none {k : List UInt8} {v : Value} : ∀ {ents : List (List UInt8 × Value)}, posE k ents = none → setE k v ents = ents ++ [(k, v)]
  | [], _ => rfl
  | p :: r, h => by
    simp only [posE] at h
    split at h
    · cases h
    · rename_i hk
      rw [Option.map_eq_none_iff] at h
      simp only [setE, if_neg hk, setE_none h, List.cons_append]
theorem setE_some {k : List UInt8} {v : Value} : ∀ {ents : List (List UInt8 × Value)} {j : Nat}, posE k ents = some j → ∃ h : j < ents.length, ents[j].1 = k ∧ setE k v ents = ents.set j (k, v)
  | [], j, h => by cases h
  | p :: r, j, h => by
    simp only [posE] at h
    split at h
    · rename_i hk
      cases h
      exact ⟨by simp, hk, by simp [setE, hk]⟩
    · rename_i hk
      obtain ⟨i, hi, rfl⟩ := Option.map_eq_some_iff.1 h
      obtain ⟨h1, h2, h3⟩ := setE_some (v := v) hi
      exact ⟨by simp; omega, by simpa using h2, by simp [setE, hk, h3]⟩

theorem update_of {T : TypeId} (hT : Tryz.prog.underlying T = some (.map 9 88)) {m : Nat} {k : List UInt8} {v : Value} {ents : List (List UInt8 × Value)} {H : Heap} (h : MapAt H m ents) :
    ∃ H', MapAt H' m (setE k v ents) ∧ Frm [m] H H' ∧ H'.size = H.size ∧ ∀ K : Value → Heap → Prop, ExecV Tryz.prog (do Instr.mapUpdate T (.map (some m)) (strVal k) v; pure undef) H K = K undef H' := by
  obtain ⟨es, c, h1, h2, h3, h4⟩ := h
  have hs : (posE k ents).isSome = (getE k ents).isSome := posE_some
  have hrunf : ∀ w, (Instr.findKey 9 (strVal k) es.toList).run Tryz.prog w = .ok ((posE k ents).bind fun j => (getE k ents).map fun v => (j, v)) w := fun w => find_run h2 w
  have hset : ∀ (w : World) (o : Obj), w.heap = H → (setObj m o).run Tryz.prog w = .ok () { w with heap := upd H m o } := fun w o hw => by
    subst hw
    simp only [setObj, Sem.run, h1]
    rfl
  cases hp : posE k ents with
  | none =>
    have hg : getE k ents = none := by rw [hp] at hs; simpa using hs.symm
    refine ⟨upd H m (.map (es.push ⟨strVal k, v, c⟩) (c + 1)), ⟨_, _, upd_same (lt_of_some h1), ?_, ?_, by simp [h4]⟩, Frm.upd _ (by simp), by simp, fun K => ?_⟩
    · rw [setE_none hp]
      unfold entsOf at h2 ⊢
      simp [h2]
    · simp [h3, List.range_succ, h4]
    · apply ExecV.eq'
      intro w hw
      refine ⟨{ w with heap := upd H m (.map (es.push ⟨strVal k, v, c⟩) (c + 1)) }, ?_, ⟨rfl, rfl, rfl⟩, rfl⟩
      have hgo : (getObj m).run Tryz.prog w = .ok (.map es c) w := by simp [getObj, Sem.run, hw, h1]
      have hc := check9 false ⟨k.toArray⟩ w
      have hf := hrunf w
      rw [hp] at hf
      simp only [Instr.mapUpdate, Sem.run_bind, run_underlying hT, Result.andThen_ok, hgo]
      rw [show strVal k = .string ⟨k.toArray⟩ from rfl, hc]
      simp only [Result.andThen_ok]
      rw [show (Value.string ⟨k.toArray⟩) = strVal k from rfl, hf]
      simp only [Option.bind_none, Result.andThen_ok, hset w _ hw]
      rfl
  | some j =>
    have hg : ∃ u, getE k ents = some u := by rw [hp] at hs; exact Option.isSome_iff_exists.1 hs.symm
    obtain ⟨u, hu⟩ := hg
    obtain ⟨hj, hjk, hse⟩ := setE_some (v := v) hp
    have hlen : es.size = ents.length := by
      have := congrArg List.length h2
      simpa [entsOf] using this
    have hjs : j < es.size := by omega
    have hkey : es[j].key = strVal k := by
      have h5 : (es.toList.map (fun e => (e.key, e.val)))[j]? = (ents.map fun p => (strVal p.1, p.2))[j]? := by rw [h2]
      rw [List.getElem?_map, List.getElem?_map, Array.getElem?_toList, Array.getElem?_eq_getElem hjs, List.getElem?_eq_getElem hj] at h5
      simp only [Option.map_some, Option.some.injEq, Prod.mk.injEq] at h5
      rw [h5.1, hjk]
    refine ⟨upd H m (.map (es.modify j fun e => { e with key := strVal k, val := v }) c), ⟨_, _, upd_same (lt_of_some h1), ?_, ?_, by simp [h4]⟩, Frm.upd _ (by simp), by simp, fun K => ?_⟩
    · rw [hse]
      unfold entsOf at h2 ⊢
      apply List.ext_getElem?
      intro i
      have h5 : (es.toList.map (fun e => (e.key, e.val)))[i]? = (ents.map fun p => (strVal p.1, p.2))[i]? := by rw [h2]
      rw [List.getElem?_map, List.getElem?_map, Array.getElem?_toList] at h5 ⊢
      rw [Array.getElem?_modify, List.getElem?_set]
      by_cases hij : j = i
      · subst hij
        rw [if_pos rfl, if_pos rfl, if_pos hj, Array.getElem?_eq_getElem hjs]
        rfl
      · rw [if_neg hij, if_neg hij]
        exact h5
    · rw [← h3.trans (by simp : List.range es.size = List.range (es.modify j fun e => { e with key := strVal k, val := v }).size)]
      apply List.ext_getElem?
      intro i
      rw [List.getElem?_map, List.getElem?_map, Array.getElem?_toList, Array.getElem?_toList, Array.getElem?_modify]
      by_cases hij : j = i
      · subst hij
        rw [if_pos rfl]
        cases es[j]? <;> rfl
      · rw [if_neg hij]
    · apply ExecV.eq'
      intro w hw
      refine ⟨{ w with heap := upd H m (.map (es.modify j fun e => { e with key := strVal k, val := v }) c) }, ?_, ⟨rfl, rfl, rfl⟩, rfl⟩
      have hgo : (getObj m).run Tryz.prog w = .ok (.map es c) w := by simp [getObj, Sem.run, hw, h1]
      have hc := check9 false ⟨k.toArray⟩ w
      have hf := hrunf w
      rw [hp, hu] at hf
      have hstay : (Instr.keyThatStays (((es[j]?).map (·.key)).getD (strVal k)) (strVal k)).run Tryz.prog w = .ok (strVal k) w := by
        rw [Array.getElem?_eq_getElem hjs, Option.map_some, Option.getD_some, hkey]
        have : Instr.sameBits 10000 (strVal k) (strVal k) = true := by
          simp only [strVal, Instr.sameBits, bytes_beq]
          simp
        simp [Instr.keyThatStays, this]
      simp only [Instr.mapUpdate, Sem.run_bind, run_underlying hT, Result.andThen_ok, hgo]
      rw [show strVal k = .string ⟨k.toArray⟩ from rfl, hc]
      simp only [Result.andThen_ok]
      rw [show (Value.string ⟨k.toArray⟩) = strVal k from rfl, hf]
      simp only [Option.bind_some, Option.map_some, Result.andThen_ok, hstay, Sem.run_bind, hset w _ hw]
      rfl
end Go.Cps
