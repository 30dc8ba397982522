/-
  bytes.Buffer: Write, WriteString, Bytes.
  Conditions: fewer than 2^40 bytes in all.
-/
import Derived.Test.YtfajmapajpfocaaGreatDoorL13
set_option linter.all false
namespace Go.Cps
open Go Go.Proofs

theorem copy_gen {H : Heap} {bf o dl dc : Nat} {cs : Array Value} {t : TypeId} {x : Value} {l : List UInt8} {K : Value → Heap → Prop} (hb : H[bf]? = some (.cells cs t (0, 0))) (h2 : countV x = some l.length) (h1 : elemsV 1 (min l.length dl) x H = some ((l.take (min l.length dl)).map byteV)) (hle : o + dl ≤ cs.size)
    (h : K (.int .i64 (min l.length dl : Nat)) (upd H bf (.cells (putAt cs o ((l.take (min l.length dl)).map byteV)) t (0, 0)))) : Copy 1 (.slice (some ⟨bf, o, none⟩) dl dc) x H K := by
  refine ⟨_, dl, dc, l.length, _, rfl, h2, h1, _, stores_upd _ H bf o 0 cs t hb (by simp; omega) (fun v hv => by
    obtain ⟨b, _, rfl⟩ := List.mem_map.1 hv; rfl), h⟩

/-- a value that copies as l: a slice of bytes or a string -/
def Src (H : Heap) (x : Value) (l : List UInt8) : Prop := countV x = some l.length ∧ ∀ m, m ≤ l.length → elemsV 1 m x H = some ((l.take m).map byteV)
theorem IsBytes.src {H : Heap} {x : Value} {l : List UInt8} (h : IsBytes H x l) : Src H x l := by
  refine ⟨(h.elems (m := 0) (Nat.zero_le _)).2, fun m hm => (h.elems hm).1⟩
theorem strVal_src (H : Heap) (l : List UInt8) : Src H (strVal l) l := by
  refine ⟨by simp [strVal, countV, ByteArray.size], fun m hm => ?_⟩
  simp only [strVal, elemsV, Option.some.injEq]
  have : ((⟨l.toArray⟩ : ByteArray).extract 0 m).data = (l.take m).toArray := by
    simp [ByteArray.data_extract]
  rw [this]
  simp only [List.map_toArray, List.map_take]
  rfl

theorem putAt_take {cells : Array Value} {l d : List UInt8} (ht : cells.toList.take l.length = l.map byteV) (hle : l.length + d.length ≤ cells.size) :
    (putAt cells l.length (d.map byteV)).toList.take (l ++ d).length = (l ++ d).map byteV := by
  apply List.ext_getElem?
  intro i
  rw [List.getElem?_take]
  by_cases hi : i < (l ++ d).length
  · rw [if_pos hi, Array.getElem?_toList, putAt_get _ _ _ _ (by simpa using hle), List.map_append]
    rw [List.length_append] at hi
    by_cases hi2 : i < l.length
    · rw [if_neg (by omega), List.getElem?_append_left (by simpa using hi2), ← ht, List.getElem?_take, if_pos hi2, Array.getElem?_toList]
    · rw [if_pos ⟨by omega, by simp; omega⟩, List.getElem?_append_right (by simp; omega)]
      simp
  · rw [if_neg hi, List.getElem?_eq_none (by simpa using hi)]

/-- the copy behind the room -/
theorem put_ok {b n : Nat} {k : Option Nat} {l d : List UInt8} {sl x : Value} {lr : Int} {H : Heap} {K : Value → Heap → Prop} (h : H[b]? = some (.cells #[sl, .int .i64 0, .int .i8 lr] 55 (0, 0))) (hr : Room H b l n k sl) (hx : Src H x d) (hn : n = d.length) (hl : l.length + n < 2 ^ 40)
    (hk : ∀ H', BufAt b k (l ++ d) H' → Frm k.toList H H' → H'.size = H.size → K (.int .i64 d.length) H') : Get (sliceV 1 sl (some (.int .i64 l.length)) none none) fun y => Copy 1 y x H K := by
  subst hn
  cases k with
  | none =>
    obtain ⟨rfl, rfl, hd⟩ := hr
    have hd' : d = [] := List.eq_nil_of_length_eq_zero hd
    subst hd'
    refine ⟨.slice none 0 0, rfl, none, 0, 0, 0, [], rfl, hx.1, by simpa using hx.2 0 (Nat.le_refl _), ?_⟩
    exact ⟨H, rfl, hk H ⟨_, lr, h, rfl, rfl⟩ (Frm.refl _ _) rfl⟩
  | some g =>
    obtain ⟨cells, rfl, hg, ht, hle, hm, hne⟩ := hr
    rw [sliceV_lo (by omega), Get_some]
    have e : ∃ o, (if cells.size = l.length then some (⟨g, 0, none⟩ : Addr) else (some (⟨g, 0, none⟩ : Addr)).map (·.add (l.length * 1))) = some ⟨g, o, none⟩ ∧ (o = l.length ∨ d = []) ∧ o + d.length ≤ cells.size := by
      by_cases hc : cells.size = l.length
      · rw [if_pos hc]
        exact ⟨0, rfl, .inr (List.eq_nil_of_length_eq_zero (by omega)), by omega⟩
      · rw [if_neg hc]
        exact ⟨l.length, by simp, .inl rfl, hle⟩
    obtain ⟨o, ho, hod, hole⟩ := e
    rw [ho]
    have hmin : min d.length (l.length + d.length - l.length) = d.length := by omega
    refine copy_gen hg hx.1 (by rw [hmin]; exact hx.2 _ (Nat.le_refl _)) (by omega) ?_
    rw [hmin, List.take_length]
    have hput : putAt cells o (d.map byteV) = putAt cells l.length (d.map byteV) := by
      rcases hod with rfl | rfl
      · rfl
      · rfl
    rw [hput]
    refine hk _ ⟨_, lr, (Frm.upd (S := [g]) _ (by simp)).get h (by simpa using hne.symm), putAt cells l.length (d.map byteV), ?_, upd_same (lt_of_some hg), putAt_take ht hle, by simp; omega, by simpa using hm, hne⟩ (Frm.upd _ (by simp)) (by simp)
    simp

theorem write_core {b : Nat} {k : Option Nat} {l d : List UInt8} {x : Value} {H : Heap} {R : Value → Heap → Prop} (h : BufAt b k l H) (hx : ∀ H', Frm [b] H H' → Src H' x d) (hlen : l.length + d.length < 2 ^ 40)
    (hR : ∀ k' H', BufAt b k' (l ++ d) H' → Frm (b :: k.toList) H H' → (k' = k ∨ ∃ g, k' = some g ∧ H.size ≤ g) → R (.tuple #[.int .i64 d.length, .nilIface]) H') :
      Get (store1V (.pointer (some ⟨b, 2, none⟩)) (.int .i8 0) H) fun H =>
        CallsH Tryz.prog 83 #[.pointer (some ⟨b, 0, none⟩), .int .i64 d.length] H fun x15 H =>
        Get (extractV x15 0) fun x16 =>
        Get (extractV x15 1) fun x17 =>
        Join (fun K1 =>
        Get (unV .not x17) fun x19 =>
        Br x19 (
        CallsH Tryz.prog 84 #[.pointer (some ⟨b, 0, none⟩), .int .i64 d.length] H fun x23 H =>
        K1 [x23] H) (
        K1 [x16] H)) fun vs2 H =>
        Fld 0 (.pointer (some ⟨b, 0, none⟩)) H fun x27 =>
        Get (sliceV 1 x27 (some (nth vs2 0)) none none) fun x29 =>
        Copy 1 x29 x H fun x31 H =>
        R (.tuple #[x31, .nilIface]) H := by
  obtain ⟨sl, lr, hb, ho⟩ := h
  obtain ⟨base, c, rfl, hlc, hcm⟩ := ho.shape
  refine Store_of hb (by simp) rfl fun H1 hb1 f1 z1 => ?_
  simp only [List.setIfInBounds_toArray, List.set_cons_succ, List.set_cons_zero] at hb1
  have ho1 := ho.frm f1 (fun g hg => by simpa using ho.ne g hg)
  have post : ∀ H3 k' sl', H3[b]? = some (.cells #[sl', .int .i64 0, .int .i8 0] 55 (0, 0)) → Room H3 b l d.length k' sl' → Frm [b] H H3 → (k' = k ∨ ∃ g, k' = some g ∧ H.size ≤ g) →
      Fld 0 (.pointer (some ⟨b, 0, none⟩)) H3 fun x27 => Get (sliceV 1 x27 (some (.int .i64 l.length)) none none) fun x29 => Copy 1 x29 x H3 fun x31 H => R (.tuple #[x31, .nilIface]) H := by
    intro H3 k' sl' hb3 hr3 f3 hk3
    simp only [Fld_ptr, add_mk, Nat.zero_add, List.getElem?_toArray, List.getElem?_cons_succ, List.getElem?_cons_zero, Get_some, Br_true, Br_false, nth_zero, nth_one, nth_two, extractV_tuple, fieldAddrV_ptr, nilV_ptr, load1V_ptr, pickV_bool, unV_not, lenV_slice, capV_slice, cellH_of hb3]
    refine put_ok hb3 hr3 (hx H3 f3) rfl hlen fun H4 h4 f4 z4 => ?_
    refine hR k' H4 h4 ?_ hk3
    refine ⟨by have := f3.size; omega, fun i hi hn => ?_⟩
    rw [f4.same i (by have := f3.size; omega) (fun hc => ?_), f3.same i hi (fun hc => hn (by simp at hc; simp [hc]))]
    rcases hk3 with rfl | ⟨g, rfl, hg⟩
    · exact hn (List.mem_cons_of_mem _ hc)
    · simp at hc; omega
  refine (tryGrow_ok hb1 hlc hcm (by omega) (by omega)).mono ?_
  rintro y H2 (⟨hle, rfl, hb2, f2, z2⟩ | ⟨hgt, rfl, rfl⟩)
  · simp only [Fld_ptr, add_mk, Nat.zero_add, List.getElem?_toArray, List.getElem?_cons_succ, List.getElem?_cons_zero, Get_some, Br_true, Br_false, nth_zero, nth_one, nth_two, extractV_tuple, fieldAddrV_ptr, nilV_ptr, load1V_ptr, pickV_bool, unV_not, lenV_slice, capV_slice]
    refine Join_direct ?_
    simp only [Fld_ptr, add_mk, Nat.zero_add, List.getElem?_toArray, List.getElem?_cons_succ, List.getElem?_cons_zero, Get_some, Br_true, Br_false, nth_zero, nth_one, nth_two, extractV_tuple, fieldAddrV_ptr, nilV_ptr, load1V_ptr, pickV_bool, unV_not, lenV_slice, capV_slice, Bool.not_true]
    have hroom := (ho1.room hle).2
    have hp := post H2 k _ hb2 (hroom.frm f2 (fun g hg => by simpa using ho.ne g hg)) (f1.trans f2) (.inl rfl)
    simpa only [Fld_ptr, add_mk, Nat.zero_add] using hp
  · simp only [Fld_ptr, add_mk, Nat.zero_add, List.getElem?_toArray, List.getElem?_cons_succ, List.getElem?_cons_zero, Get_some, Br_true, Br_false, nth_zero, nth_one, nth_two, extractV_tuple, fieldAddrV_ptr, nilV_ptr, load1V_ptr, pickV_bool, unV_not, lenV_slice, capV_slice]
    refine Join_direct ?_
    simp only [Fld_ptr, add_mk, Nat.zero_add, List.getElem?_toArray, List.getElem?_cons_succ, List.getElem?_cons_zero, Get_some, Br_true, Br_false, nth_zero, nth_one, nth_two, extractV_tuple, fieldAddrV_ptr, nilV_ptr, load1V_ptr, pickV_bool, unV_not, lenV_slice, capV_slice, Bool.not_false]
    refine (grow_ok hb1 ho1 hlen (fun base' m' c' he => by cases he; exact hgt)).mono ?_
    rintro y H3 ⟨rfl, g, sl', hb3, hr3, f3, hg⟩
    have hp := post H3 (some g) sl' hb3 hr3 (f1.trans f3) (.inr ⟨g, rfl, by omega⟩)
    simpa only [Fld_ptr, add_mk, Nat.zero_add] using hp

theorem bufWrite_ok {b : Nat} {k : Option Nat} {l d : List UInt8} {x : Value} {H : Heap} (h : BufAt b k l H) (hx : IsBytes H x d) (hxb : ∀ y, blk x = some y → y ≠ b) (hlen : l.length + d.length < 2 ^ 40) :
    CallsH Tryz.prog 209 #[.pointer (some ⟨b, 0, none⟩), x] H fun r H' => r = .tuple #[.int .i64 d.length, .nilIface] ∧ ∃ k', BufAt b k' (l ++ d) H' ∧ Frm (b :: k.toList) H H' ∧ (k' = k ∨ ∃ g, k' = some g ∧ H.size ≤ g) := by
  apply s209
  simp only [c209, nilV_ptr, Get_some, fieldAddrV_ptr, add_mk, Nat.zero_add, hx.len]
  refine write_core (R := fun r H' => r = .tuple #[.int .i64 d.length, .nilIface] ∧ ∃ k', BufAt b k' (l ++ d) H' ∧ Frm (b :: k.toList) H H' ∧ (k' = k ∨ ∃ g, k' = some g ∧ H.size ≤ g)) h (fun H' f => (hx.frm f (fun y hy => by simpa using hxb y hy)).src) hlen fun k' H' h1 h2 h3 => ⟨rfl, k', h1, h2, h3⟩

theorem bufWriteString_ok {b : Nat} {k : Option Nat} {l d : List UInt8} {H : Heap} (h : BufAt b k l H) (hlen : l.length + d.length < 2 ^ 40) :
    CallsH Tryz.prog 62 #[.pointer (some ⟨b, 0, none⟩), strVal d] H fun r H' => r = .tuple #[.int .i64 d.length, .nilIface] ∧ ∃ k', BufAt b k' (l ++ d) H' ∧ Frm (b :: k.toList) H H' ∧ (k' = k ∨ ∃ g, k' = some g ∧ H.size ≤ g) := by
  apply s62
  have e : lenStrV (strVal d) = some (.int .i64 d.length) := by simp [strVal, bstr_size]
  simp only [c62, nilV_ptr, Get_some, fieldAddrV_ptr, add_mk, Nat.zero_add, e]
  refine write_core (R := fun r H' => r = .tuple #[.int .i64 d.length, .nilIface] ∧ ∃ k', BufAt b k' (l ++ d) H' ∧ Frm (b :: k.toList) H H' ∧ (k' = k ∨ ∃ g, k' = some g ∧ H.size ≤ g)) h (fun H' _ => strVal_src H' d) hlen fun k' H' h1 h2 h3 => ⟨rfl, k', h1, h2, h3⟩

theorem bufBytes_ok {b : Nat} {k : Option Nat} {l : List UInt8} {H : Heap} (h : BufAt b k l H) : CallsH Tryz.prog 34 #[.pointer (some ⟨b, 0, none⟩)] H fun x H' => IsBytes H' x l ∧ (∀ y, blk x = some y → k = some y) ∧ H' = H := by
  obtain ⟨sl, lr, hb, ho⟩ := h
  obtain ⟨base, c, rfl, hlc, hcm⟩ := ho.shape
  apply s34
  have s1 : sliceV 1 (.slice base l.length c) (some (.int .i64 0)) none none = some (.slice base l.length c) := by
    have := sliceV_lo (a := base) (n := l.length) (c := c) (size := 1) (lo := 0) (Nat.zero_le _) .i64
    rw [show ((0 : Nat) : Int) = 0 from rfl] at this
    rw [this]
    cases base with
    | none => simp
    | some a => simp [Addr.add]
  simp only [c34, Fld_ptr, add_mk, Nat.zero_add, List.getElem?_toArray, List.getElem?_cons_succ, List.getElem?_cons_zero, Get_some, Br_true, Br_false, nth_zero, nth_one, nth_two, extractV_tuple, fieldAddrV_ptr, nilV_ptr, load1V_ptr, pickV_bool, unV_not, lenV_slice, capV_slice, cellH_of hb, s1]
  refine ⟨ho.bytes, ?_, trivial⟩
  intro y hy
  cases k with
  | none =>
    obtain ⟨h1, _⟩ := ho
    rw [h1] at hy
    simp [blk] at hy
  | some g =>
    obtain ⟨cells, h1, _⟩ := ho
    rw [h1] at hy
    simp [blk] at hy
    rw [hy]
end Go.Cps
