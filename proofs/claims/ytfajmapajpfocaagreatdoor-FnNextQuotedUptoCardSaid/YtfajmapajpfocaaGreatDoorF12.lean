/-
  A part of the proof: bytes.Buffer: Write, WriteString, Bytes. append of bytes to an owned slice; all, discard, Part.Read, Part.Close. A part's body read whole: Part.Read, all; discard behind its end. A second bufio.Reader, over the body of a part: its state, fill, readErr, Buffered.
  Conditions: each contract's own.
-/
import Derived.Laws.Append
import Derived.Test.YtfajmapajpfocaaGreatDoorF10
import Derived.Test.YtfajmapajpfocaaGreatDoorF11
set_option linter.all false
namespace Go.Cps
open Go Go.Proofs
theorem copy_gen {H : Heap} {bf o dl dc : Nat} {cs : Array Value} {t : TypeId} {x : Value} {l : List UInt8} {K : Value → Heap → Prop} (hb : H[bf]? = some (.cells cs t (0, 0))) (h2 : countV x = some l.length) (h1 : elemsV 1 (min l.length dl) x H = some ((l.take (min l.length dl)).map byteV)) (hle : o + dl ≤ cs.size)
    (h : K (.int .i64 (min l.length dl : Nat)) (upd H bf (.cells (putAt cs o ((l.take (min l.length dl)).map byteV)) t (0, 0)))) : Copy 1 (.slice (some ⟨bf, o, none⟩) dl dc) x H K := by
  refine ⟨_, dl, dc, l.length, _, rfl, h2, h1, _, stores_upd _ H bf o 0 cs t hb (by simp; omega) (fun v hv => by
    obtain ⟨b, _, rfl⟩ := List.mem_map.1 hv; rfl), h⟩
def Src (H : Heap) (x : Value) (l : List UInt8) : Prop := countV x = some l.length ∧ ∀ m, m ≤ l.length → elemsV 1 m x H = some ((l.take m).map byteV)
theorem IsBytes.src {H : Heap} {x : Value} {l : List UInt8} (h : IsBytes H x l) : Src H x l := by
  refine ⟨(h.elems (m := 0) (Nat.zero_le _)).2, fun m hm => (h.elems hm).1⟩
theorem strVal_src (H : Heap) (l : List UInt8) : Src H (strVal l) l := by
  refine ⟨by simp [strVal, countV, ByteArray.size], fun m hm => ?_⟩
  simp only [strVal, elemsV, Option.some.injEq]
  have : ((⟨l.toArray⟩ : ByteArray).extract 0 m).data = (l.take m).toArray := by
    simp [ByteArray.data_extract]
  rw [this]
  simp only [List.map_toArray, List.map_take]
  rfl
theorem putAt_take {cells : Array Value} {l d : List UInt8} (ht : cells.toList.take l.length = l.map byteV) (hle : l.length + d.length ≤ cells.size) :
    (putAt cells l.length (d.map byteV)).toList.take (l ++ d).length = (l ++ d).map byteV := by
  apply List.ext_getElem?
  intro i
  rw [List.getElem?_take]
  by_cases hi : i < (l ++ d).length
  · rw [if_pos hi, Array.getElem?_toList, putAt_get _ _ _ _ (by simpa using hle), List.map_append]
    rw [List.length_append] at hi
    by_cases hi2 : i < l.length
    · rw [if_neg (by omega), List.getElem?_append_left (by simpa using hi2), ← ht, List.getElem?_take, if_pos hi2, Array.getElem?_toList]
    · rw [if_pos ⟨by omega, by simp; omega⟩, List.getElem?_append_right (by simp; omega)]
      simp
  · rw [if_neg hi, List.getElem?_eq_none (by simpa using hi)]
theorem put_ok {b n : Nat} {k : Option Nat} {l d : List UInt8} {sl x : Value} {lr : Int} {H : Heap} {K : Value → Heap → Prop} (h : H[b]? = some (.cells #[sl, .int .i64 0, .int .i8 lr] 55 (0, 0))) (hr : Room H b l n k sl) (hx : Src H x d) (hn : n = d.length) (hl : l.length + n < 2 ^ 40)
    (hk : ∀ H', BufAt b k (l ++ d) H' → Frm k.toList H H' → H'.size = H.size → K (.int .i64 d.length) H') : Get (sliceV 1 sl (some (.int .i64 l.length)) none none) fun y => Copy 1 y x H K := by
  subst hn
  cases k with
  | none =>
    obtain ⟨rfl, rfl, hd⟩ := hr
    have hd' : d = [] := List.eq_nil_of_length_eq_zero hd
    subst hd'
    refine ⟨.slice none 0 0, rfl, none, 0, 0, 0, [], rfl, hx.1, by simpa using hx.2 0 (Nat.le_refl _), ?_⟩
    exact ⟨H, rfl, hk H ⟨_, lr, h, rfl, rfl⟩ (Frm.refl _ _) rfl⟩
  | some g =>
    obtain ⟨cells, rfl, hg, ht, hle, hm, hne⟩ := hr
    rw [sliceV_lo (by omega), Q6]
    have e : ∃ o, (if cells.size = l.length then some (⟨g, 0, none⟩ : Addr) else (some (⟨g, 0, none⟩ : Addr)).map (·.add (l.length * 1))) = some ⟨g, o, none⟩ ∧ (o = l.length ∨ d = []) ∧ o + d.length ≤ cells.size := by
      by_cases hc : cells.size = l.length
      · rw [if_pos hc]
        exact ⟨0, rfl, .inr (List.eq_nil_of_length_eq_zero (by omega)), by omega⟩
      · rw [if_neg hc]
        exact ⟨l.length, by simp, .inl rfl, hle⟩
    obtain ⟨o, ho, hod, hole⟩ := e
    rw [ho]
    have hmin : min d.length (l.length + d.length - l.length) = d.length := by omega
    refine copy_gen hg hx.1 (by rw [hmin]; exact hx.2 _ (Nat.le_refl _)) (by omega) ?_
    rw [hmin, List.take_length]
    have hput : putAt cells o (d.map byteV) = putAt cells l.length (d.map byteV) := by
      rcases hod with rfl | rfl
      · rfl
      · rfl
    rw [hput]
    refine hk _ ⟨_, lr, (Frm.upd (S := [g]) _ (by simp)).get h (by simpa using hne.symm), putAt cells l.length (d.map byteV), ?_, upd_same (lt_of_some hg), putAt_take ht hle, by simp; omega, by simpa using hm, hne⟩ (Frm.upd _ (by simp)) (by simp)
    simp
theorem write_core {b : Nat} {k : Option Nat} {l d : List UInt8} {x : Value} {H : Heap} {R : Value → Heap → Prop} (h : BufAt b k l H) (hx : ∀ H', Frm [b] H H' → Src H' x d) (hlen : l.length + d.length < 2 ^ 40)
    (hR : ∀ k' H', BufAt b k' (l ++ d) H' → Frm (b :: k.toList) H H' → (k' = k ∨ ∃ g, k' = some g ∧ H.size ≤ g) → R (.tuple #[.int .i64 d.length, .nilIface]) H') :
      Get (store1V (.pointer (some ⟨b, 2, none⟩)) (.int .i8 0) H) fun H =>
        CallsH Tryz.prog 83 #[.pointer (some ⟨b, 0, none⟩), .int .i64 d.length] H fun x15 H =>
        Get (extractV x15 0) fun x16 =>
        Get (extractV x15 1) fun x17 =>
        Join (fun K1 =>
        Get (unV .not x17) fun x19 =>
        Br x19 (
        CallsH Tryz.prog 84 #[.pointer (some ⟨b, 0, none⟩), .int .i64 d.length] H fun x23 H =>
        K1 [x23] H) (
        K1 [x16] H)) fun vs2 H =>
        Fld 0 (.pointer (some ⟨b, 0, none⟩)) H fun x27 =>
        Get (sliceV 1 x27 (some (nth vs2 0)) none none) fun x29 =>
        Copy 1 x29 x H fun x31 H =>
        R (.tuple #[x31, .nilIface]) H := by
  obtain ⟨sl, lr, hb, ho⟩ := h
  obtain ⟨base, c, rfl, hlc, hcm⟩ := ho.shape
  refine Store_of hb (by simp) rfl fun H1 hb1 f1 z1 => ?_
  simp only [Qt, Qu, Qv] at hb1
  have ho1 := ho.frm f1 (fun g hg => by simpa using ho.ne g hg)
  have post : ∀ H3 k' sl', H3[b]? = some (.cells #[sl', .int .i64 0, .int .i8 0] 55 (0, 0)) → Room H3 b l d.length k' sl' → Frm [b] H H3 → (k' = k ∨ ∃ g, k' = some g ∧ H.size ≤ g) →
      Fld 0 (.pointer (some ⟨b, 0, none⟩)) H3 fun x27 => Get (sliceV 1 x27 (some (.int .i64 l.length)) none none) fun x29 => Copy 1 x29 x H3 fun x31 H => R (.tuple #[x31, .nilIface]) H := by
    intro H3 k' sl' hb3 hr3 f3 hk3
    simp only [Q0, Q1, Q2, Q3, Q4, Q5, Q6, Q7, Q8, Q9, Qa, Qb, Qc, Qd, Qe, Qf, Qg, Qh, Qi, Qj, cellH_of hb3]
    refine put_ok hb3 hr3 (hx H3 f3) rfl hlen fun H4 h4 f4 z4 => ?_
    refine hR k' H4 h4 ?_ hk3
    refine ⟨by have := f3.size; omega, fun i hi hn => ?_⟩
    rw [f4.same i (by have := f3.size; omega) (fun hc => ?_), f3.same i hi (fun hc => hn (by simp at hc; simp [hc]))]
    rcases hk3 with rfl | ⟨g, rfl, hg⟩
    · exact hn (List.mem_cons_of_mem _ hc)
    · simp at hc; omega
  refine (tryGrow_ok hb1 hlc hcm (by omega) (by omega)).mono ?_
  rintro y H2 (⟨hle, rfl, hb2, f2, z2⟩ | ⟨hgt, rfl, rfl⟩)
  · simp only [Q0, Q1, Q2, Q3, Q4, Q5, Q6, Q7, Q8, Q9, Qa, Qb, Qc, Qd, Qe, Qf, Qg, Qh, Qi, Qj]
    refine Join_direct ?_
    simp only [Q0, Q1, Q2, Q3, Q4, Q5, Q6, Q7, Q8, Q9, Qa, Qb, Qc, Qd, Qe, Qf, Qg, Qh, Qi, Qj, Bool.not_true]
    have hroom := (ho1.room hle).2
    have hp := post H2 k _ hb2 (hroom.frm f2 (fun g hg => by simpa using ho.ne g hg)) (f1.trans f2) (.inl rfl)
    simpa only [Q0, Q1, Nat.zero_add] using hp
  · simp only [Q0, Q1, Q2, Q3, Q4, Q5, Q6, Q7, Q8, Q9, Qa, Qb, Qc, Qd, Qe, Qf, Qg, Qh, Qi, Qj]
    refine Join_direct ?_
    simp only [Q0, Q1, Q2, Q3, Q4, Q5, Q6, Q7, Q8, Q9, Qa, Qb, Qc, Qd, Qe, Qf, Qg, Qh, Qi, Qj, Bool.not_false]
    refine (grow_ok hb1 ho1 hlen (fun base' m' c' he => by cases he; exact hgt)).mono ?_
    rintro y H3 ⟨rfl, g, sl', hb3, hr3, f3, hg⟩
    have hp := post H3 (some g) sl' hb3 hr3 (f1.trans f3) (.inr ⟨g, rfl, by omega⟩)
    simpa only [Q0, Q1, Nat.zero_add] using hp
theorem bufWrite_ok {b : Nat} {k : Option Nat} {l d : List UInt8} {x : Value} {H : Heap} (h : BufAt b k l H) (hx : IsBytes H x d) (hxb : ∀ y, blk x = some y → y ≠ b) (hlen : l.length + d.length < 2 ^ 40) :
    CallsH Tryz.prog 209 #[.pointer (some ⟨b, 0, none⟩), x] H fun r H' => r = .tuple #[.int .i64 d.length, .nilIface] ∧ ∃ k', BufAt b k' (l ++ d) H' ∧ Frm (b :: k.toList) H H' ∧ (k' = k ∨ ∃ g, k' = some g ∧ H.size ≤ g) := by
  apply s209
  simp only [c209, Qe, Q6, Qd, Q1, Nat.zero_add, hx.len]
  refine write_core (R := fun r H' => r = .tuple #[.int .i64 d.length, .nilIface] ∧ ∃ k', BufAt b k' (l ++ d) H' ∧ Frm (b :: k.toList) H H' ∧ (k' = k ∨ ∃ g, k' = some g ∧ H.size ≤ g)) h (fun H' f => (hx.frm f (fun y hy => by simpa using hxb y hy)).src) hlen fun k' H' h1 h2 h3 => ⟨rfl, k', h1, h2, h3⟩
theorem bufWriteString_ok {b : Nat} {k : Option Nat} {l d : List UInt8} {H : Heap} (h : BufAt b k l H) (hlen : l.length + d.length < 2 ^ 40) :
    CallsH Tryz.prog 62 #[.pointer (some ⟨b, 0, none⟩), strVal d] H fun r H' => r = .tuple #[.int .i64 d.length, .nilIface] ∧ ∃ k', BufAt b k' (l ++ d) H' ∧ Frm (b :: k.toList) H H' ∧ (k' = k ∨ ∃ g, k' = some g ∧ H.size ≤ g) := by
  apply s62
  have e : lenStrV (strVal d) = some (.int .i64 d.length) := by simp [strVal, bstr_size]
  simp only [c62, Qe, Q6, Qd, Q1, Nat.zero_add, e]
  refine write_core (R := fun r H' => r = .tuple #[.int .i64 d.length, .nilIface] ∧ ∃ k', BufAt b k' (l ++ d) H' ∧ Frm (b :: k.toList) H H' ∧ (k' = k ∨ ∃ g, k' = some g ∧ H.size ≤ g)) h (fun H' _ => strVal_src H' d) hlen fun k' H' h1 h2 h3 => ⟨rfl, k', h1, h2, h3⟩
theorem bufBytes_ok {b : Nat} {k : Option Nat} {l : List UInt8} {H : Heap} (h : BufAt b k l H) : CallsH Tryz.prog 34 #[.pointer (some ⟨b, 0, none⟩)] H fun x H' => IsBytes H' x l ∧ (∀ y, blk x = some y → k = some y) ∧ H' = H := by
  obtain ⟨sl, lr, hb, ho⟩ := h
  obtain ⟨base, c, rfl, hlc, hcm⟩ := ho.shape
  apply s34
  have s1 : sliceV 1 (.slice base l.length c) (some (.int .i64 0)) none none = some (.slice base l.length c) := by
    have := sliceV_lo (a := base) (n := l.length) (c := c) (size := 1) (lo := 0) (Nat.zero_le _) .i64
    rw [show ((0 : Nat) : Int) = 0 from rfl] at this
    rw [this]
    cases base with
    | none => simp
    | some a => simp [Addr.add]
  simp only [c34, Q0, Q1, Q2, Q3, Q4, Q5, Q6, Q7, Q8, Q9, Qa, Qb, Qc, Qd, Qe, Qf, Qg, Qh, Qi, Qj, cellH_of hb, s1]
  refine ⟨ho.bytes, ?_, trivial⟩
  intro y hy
  cases k with
  | none =>
    obtain ⟨h1, _⟩ := ho
    rw [h1] at hy
    simp [blk] at hy
  | some g =>
    obtain ⟨cells, h1, _⟩ := ho
    rw [h1] at hy
    simp [blk] at hy
    rw [hy]
end Go.Cps
namespace Go.Cps
open Go Go.Proofs
def OwnB (H : Heap) (k : Option Nat) (sl : Value) (l : List UInt8) : Prop := match k with
  | none => sl = .slice none 0 0 ∧ l = []
  | some g => ∃ cells : Array Value, sl = .slice (some ⟨g, 0, none⟩) l.length cells.size ∧ H[g]? = some (.cells cells 5 (0, 0)) ∧ cells.toList.take l.length = l.map byteV ∧ l.length ≤ cells.size
theorem OwnB.bytes {H : Heap} {k : Option Nat} {sl : Value} {l : List UInt8} (h : OwnB H k sl l) : IsBytes H sl l := by
  cases k with
  | none => exact .inr ⟨none, h⟩
  | some g =>
    obtain ⟨cells, rfl, hg, ht, hle⟩ := h
    refine .inl ⟨g, 0, _, rfl, hle, fun j hj => ?_⟩
    rw [cellH_of hg, Nat.zero_add]
    have : (cells.toList.take l.length)[j]? = (l.map byteV)[j]? := by rw [ht]
    rw [List.getElem?_take, if_pos hj, List.getElem?_map] at this
    simpa using this
theorem OwnB.frm {H H' : Heap} {k : Option Nat} {sl : Value} {l : List UInt8} {X : List Nat} (h : OwnB H k sl l) (f : Frm X H H') (hk : ∀ g, k = some g → g ∉ X) : OwnB H' k sl l := by
  cases k with
  | none => exact h
  | some g =>
    obtain ⟨cells, h1, hg, h2⟩ := h
    exact ⟨cells, h1, f.get hg (hk g rfl), h2⟩
theorem OwnB.blk {H : Heap} {k : Option Nat} {sl : Value} {l : List UInt8} (h : OwnB H k sl l) : Go.Cps.blk sl = k := by
  cases k with
  | none => rw [h.1]; rfl
  | some g => obtain ⟨cells, rfl, _⟩ := h; rfl
theorem append_own {k : Option Nat} {sl x : Value} {l d : List UInt8} {H : Heap} {K : Value → Heap → Prop} (h : OwnB H k sl l) (hx : IsBytes H x d) (hl : l.length + d.length < 2 ^ 40)
    (hK : ∀ k' sl' H', OwnB H' k' sl' (l ++ d) → Frm k.toList H H' → (k' = k ∨ ∃ g, k' = some g ∧ H.size ≤ g) → K sl' H') : Append 5 1 1 #[.int .u8 0] sl x H K := by
  obtain ⟨h1, h2⟩ := hx.elems (m := d.length) (Nat.le_refl _)
  rw [List.take_length] at h1
  cases k with
  | none =>
    obtain ⟨rfl, rfl⟩ := h
    refine append_empty hx (by omega) (fun hd => ?_) (fun c H' hc hr f z hcell => ?_)
    · refine hK none _ H ⟨rfl, by rw [hd]; rfl⟩ (Frm.refl _ _) (.inl rfl)
    · obtain ⟨zz, hcell, hz⟩ := hcell
      refine hK (some H.size) _ H' ⟨_, ?_, hcell, ?_, ?_⟩ f (.inr ⟨_, rfl, Nat.le_refl _⟩)
      · simp; omega
      · simp
      · simp
  | some g =>
    obtain ⟨cells, rfl, hg, ht, hle⟩ := h
    refine ⟨_, _, _, d.length, _, rfl, h2, h1, ?_⟩
    by_cases hroom : l.length + d.length ≤ cells.size
    · left
      refine ⟨hroom, ?_⟩
      have hst := stores_upd (d.map byteV) H g l.length 0 cells 5 hg (by simpa using hroom) (fun v hv => by
        obtain ⟨b, _, rfl⟩ := List.mem_map.1 hv; rfl)
      simp only [storeRow, Nat.mul_one, Q1, Nat.zero_add, hst, Q6, Nat.add_zero]
      refine hK (some g) _ _ ⟨putAt cells l.length (d.map byteV), ?_, upd_same (lt_of_some hg), putAt_take ht hroom, ?_⟩ (Frm.upd _ (by simp)) (.inl rfl)
      · simp
      · simpa using hroom
    · right
      have hlt : cells.size < l.length + d.length := by omega
      have hcap := nextslicecap_le hlt
      refine ⟨hlt, by omega, by omega, l.map byteV, ?_, fun c hc => ?_⟩
      · simp only [elemsV, Nat.mul_one]
        refine (cellsH_getElem _ _ _).2 ⟨by simp, fun j hj => ?_⟩
        rw [cellH_of hg, Nat.zero_add, Nat.zero_add]
        have : (cells.toList.take l.length)[j]? = (l.map byteV)[j]? := by rw [ht]
        rw [List.getElem?_take, if_pos hj] at this
        simpa using this
      · refine hK (some H.size) _ _ ⟨_, ?_, push_same _ _, ?_, ?_⟩ (Frm.push _ _ _) (.inr ⟨_, rfl, Nat.le_refl _⟩)
        · simp [zeros, Builtin.zeroCells]; omega
        · simp only [Array.toList_append, List.append_assoc, List.map_append, List.length_append]
          rw [← List.append_assoc, List.take_left' (by simp)]
        · simp
end Go.Cps
namespace Go.Cps
open Go Go.Proofs
theorem meth189 : methodRes Tryz.prog 189 "Read" = some 225 := by kernel_rfl
theorem meth116 : methodRes Tryz.prog 116 "Read" = some 213 := by kernel_rfl
theorem body225 : hasBody Tryz.prog 225 = true := by kernel_rfl
theorem body213 : hasBody Tryz.prog 213 = true := by kernel_rfl
theorem putAt_bytes {H : Heap} {g c : Nat} {cs : Array Value} {t : TypeId} {l : List UInt8} (h : H[g]? = some (.cells (putAt cs 0 (l.map byteV)) t (0, 0))) (hl : l.length ≤ cs.size) (hc : l.length ≤ c) : IsBytes H (.slice (some ⟨g, 0, none⟩) l.length c) l := by
  refine .inl ⟨g, 0, c, rfl, hc, fun j hj => ?_⟩
  rw [cellH_of h, putAt_get _ _ _ _ (by simpa using hl), if_pos ⟨Nat.zero_le _, by simpa using hj⟩]
  simp
def REnv.raw (e : REnv) : Prop := e.P.r = .iface 189 (.agg #[.pointer (some ⟨e.pt, 0, none⟩)])
theorem pRead_ok {e : REnv} {b : List UInt8} {n total : Nat} {ev : Sk} {re : Bool} {s : St} {H : Heap} {db dn dc : Nat} {cs : Array Value} {t : TypeId}
    (hr : e.raw) (h : RB e b n total ev re s H) (hd : H[db]? = some (.cells cs t (0, 0))) (hdn : dn ≤ cs.size) (hdc : dn ≤ dc) (h0 : 0 < dn) (hd38 : dn < 2 ^ 38)
    (hdb : db ∉ e.pt :: e.mr :: e.tb :: e.S.ids) (hdB : e.B ≤ db) (hdv : blk e.S.v ≠ some db) :
    CallsH Tryz.prog 213 #[.pointer (some ⟨e.pt, 0, none⟩), .slice (some ⟨db, 0, none⟩) dn dc] H fun x H' => ∃ (k n' total' : Nat) (ev' : Sk) (re' : Bool) (s' : St), x = .tuple #[.int .i64 k, skV e.E e.U (if n' = 0 then ev' else .go)] ∧ k ≤ dn ∧ k ≤ b.length ∧ RB e (b.drop k) n' total' ev' re' s' H' ∧
      H'[db]? = some (.cells (putAt cs 0 ((b.take k).map byteV)) t (0, 0)) ∧ Frm (db :: e.pt :: e.S.ids) H H' ∧ (n' = 0 → ev' = .go → 0 < k) ∧ (k = 0 → n' = 0) := by
  apply s213
  simp only [c213, Q0, Q1, Q2, Q3, Q4, Q5, Q6, Q7, Q8, Q9, Qa, Qb, Qc, Qd, Qe, Qf, Qg, Qh, Qi, Qj, cellH_of h.hp, ptCells]
  rw [hr]
  refine invoke_of 225 meth189 body225 ?_
  refine (partRead_ok rfl h hd hdn hdc h0 hd38 hdb hdB hdv).mono ?_
  rintro x H1 ⟨k, n', total', ev', re', s', rfl, h1⟩
  simp only [Q0, Q1, Q2, Q3, Q4, Q5, Q6, Q7, Q8, Q9, Qa, Qb, Qc, Qd, Qe, Qf, Qg, Qh, Qi, Qj]
  exact ⟨k, n', total', ev', re', s', rfl, h1⟩
theorem all_ok {e : REnv} {b : List UInt8} {n total : Nat} {ev : Sk} {re : Bool} {s : St} {H : Heap} (hr : e.raw) (h : RB e b n total ev re s H) (hB : e.B ≤ H.size) (hH : ∀ x ∈ e.pt :: e.mr :: e.tb :: e.S.ids, x < H.size) (hv : ∀ x, blk e.S.v = some x → x < H.size) :
    CallsH Tryz.prog 68 #[.iface 116 (.pointer (some ⟨e.pt, 0, none⟩))] H fun x H' => ∃ k out d b' total' ev' re' s', x = .tuple #[out, .bool (match ev' with | .eof => true | _ => false)] ∧ OwnB H' k out d ∧ d ++ b' = b ∧ RB e b' 0 total' ev' re' s' H' ∧ ev' ≠ .go ∧
      Frm (e.pt :: e.S.ids) H H' ∧ (∀ g, k = some g → H.size ≤ g) := by
  have htot := h.tot
  apply s68
  unfold c68
  refine makeBytes_of (n := 500) (by omega) ?_
  have hd0 := push_same H (.cells ((zbuf 500).map byteV).toArray 5 (0, 0))
  have h1 := h.push (.cells ((zbuf 500).map byteV).toArray 5 (0, 0))
  have f0 : Frm (e.pt :: e.S.ids) H (H.push (.cells ((zbuf 500).map byteV).toArray 5 (0, 0))) := Frm.push _ _ _
  have z0 : (H.push (.cells ((zbuf 500).map byteV).toArray 5 (0, 0))).size = H.size + 1 := by simp
  have hcs0 : ((zbuf 500).map byteV).toArray.size = 500 := by simp [zbuf_length]
  generalize ((zbuf 500).map byteV).toArray = cs0 at *
  generalize H.push (.cells cs0 5 (0, 0)) = H0 at *
  have hdb : H.size ∉ e.pt :: e.mr :: e.tb :: e.S.ids := fun hm => by have := hH _ hm; omega
  refine ⟨fun μ vs H1 => ∃ k out d b' n total ev re s cs, vs = [out] ∧ μ = b'.length ∧ OwnB H1 k out d ∧ d ++ b' = b ∧ RB e b' n total ev re s H1 ∧ H1[H.size]? = some (.cells cs 5 (0, 0)) ∧ cs.size = 500 ∧ Frm (e.pt :: e.S.ids) H H1 ∧ (∀ g, k = some g → H.size < g),
    ⟨_, none, _, [], b, n, total, ev, re, s, cs0, rfl, rfl, ⟨rfl, rfl⟩, rfl, h1, hd0, hcs0, f0, by simp⟩, ?_⟩
  clear h1 hd0 hcs0 f0
  rintro μ vs H1 ⟨k, out, d, b', n, total, ev, re, s, cs, rfl, rfl, hout, hdb', h1, hd1, hcs, f1, hk⟩
  simp only [Q0, Q1, Q2, Q3, Q4, Q5, Q6, Q7, Q8, Q9, Qa, Qb, Qc, Qd, Qe, Qf, Qg, Qh, Qi, Qj]
  refine invoke_of 213 meth116 body213 ?_
  refine (pRead_ok (dn := 500) (dc := 500) hr h1 hd1 (by omega) (Nat.le_refl _) (by omega) (by omega) hdb hB (fun hh => by have := hv _ hh; omega)).mono ?_
  rintro x H2 ⟨j, n', total', ev', re', s', rfl, hj1, hj2, h2, hd2, f2, hz1, hz2⟩
  have hjl : (b'.take j).length = j := by simp; omega
  have hsub := putAt_bytes (c := 500) hd2 (by rw [hjl]; omega) (by rw [hjl]; omega)
  rw [hjl] at hsub
  simp only [Q0, Q1, Q2, Q3, Q4, Q5, Q6, Q7, Q8, Q9, Qa, Qb, Qc, Qd, Qe, Qf, Qg, Qh, Qi, Qj]
  rw [sliceV_hi (by omega), Q6]
  have hlen : d.length + b'.length = b.length := by rw [← hdb', List.length_append]
  have hout2 : OwnB H2 k out d := hout.frm f2 (fun g hg => by
    have h5 := hk g hg
    intro hm
    rcases List.mem_cons.1 hm with rfl | hm
    · omega
    · have : g < H.size := hH g (by
        rcases List.mem_cons.1 hm with rfl | hm
        · simp
        · simp [hm])
      omega)
  have f12 : Frm (e.pt :: e.S.ids) H H2 := ⟨Nat.le_trans f1.size f2.size, fun i hi hn => by
    rw [f2.same i (Nat.lt_of_lt_of_le hi f1.size) (fun hm => ?_), f1.same i hi hn]
    rcases List.mem_cons.1 hm with rfl | hm
    · omega
    · exact hn hm⟩
  refine append_own hout2 hsub (by rw [hjl]; omega) fun k' sl' H3 hout3 f3 hk3 => ?_
  have hkk : ∀ g, k' = some g → H.size < g := by
    intro g hg
    rcases hk3 with h | ⟨g', h, hge⟩
    · exact hk g (by rw [← h, hg])
    · rw [hg] at h; cases h
      have := f12.size
      have := lt_of_some hd2
      omega
  have hkn : ∀ g ∈ k.toList, H.size < g := by
    intro g hg
    exact hk g (by simpa using hg)
  have h3 : RB e (b'.drop j) n' total' ev' re' s' H3 := h2.frm f3 (fun g hg => by
    have h5 := hkn g hg
    refine ⟨by omega, fun hm => by have := hH g hm; omega, fun hm => by have := hv g hm; omega⟩)
  have hd3 := f3.get hd2 (fun hm => by have := hkn _ hm; omega)
  have f13 : Frm (e.pt :: e.S.ids) H H3 := ⟨Nat.le_trans f12.size f3.size, fun i hi hn => by
    rw [f3.same i (Nat.lt_of_lt_of_le hi f12.size) (fun hm => by have := hkn _ hm; omega), f12.same i hi hn]⟩
  have hcat : (d ++ b'.take j) ++ b'.drop j = b := by rw [List.append_assoc, List.take_append_drop, hdb']
  have hneq : nilV2 .neq .nilIface (skV e.E e.U (if n' = 0 then ev' else .go)) = some (.bool (!(if n' = 0 then ev' else .go).isGo)) := skV_neq e _
  simp only [hneq, Q6]
  refine Br_intro (fun hh => ?_) (fun hh => ?_)
  · have hn0 : n' = 0 := by
      rcases Nat.eq_zero_or_pos n' with h | h
      · exact h
      · rw [if_neg (by omega)] at hh; simp [Sk.isGo] at hh
    subst hn0
    rw [if_pos rfl] at hh ⊢
    simp only [Qf, h3.er.eof.load, Q6]
    have hne : ev' ≠ .go := by rintro rfl; simp [Sk.isGo] at hh
    cases ev' with
    | go => contradiction
    | eof =>
      rw [show skV e.E e.U .eof = .iface 138 (.pointer (some e.ea)) from rfl, eq_same]
      exact ⟨k', _, _, _, _, .eof, _, _, rfl, hout3, hcat, h3, by simp, f13, fun g hg => by have := hkk g hg; omega⟩
    | re =>
      obtain ⟨_, cs1, t1, g1⟩ := h3.er.be
      obtain ⟨_, cs2, t2, g2⟩ := h3.er.bu
      rw [show skV e.E e.U .re = .iface 138 (.pointer (some e.ua)) from rfl, eq_other (a := e.ua) (b := e.ea) (H := H3) h3.er.ne.symm g2 g1]
      exact ⟨k', _, _, _, _, .re, _, _, rfl, hout3, hcat, h3, by simp, f13, fun g hg => by have := hkk g hg; omega⟩
  · have hgo : (if n' = 0 then ev' else Sk.go) = .go := (Sk.isGo_iff _).1 (by simpa using hh)
    have hjp : 0 < j := by
      rcases Nat.eq_zero_or_pos j with h0 | h0
      · have := hz2 h0
        rw [if_pos this] at hgo
        exact hz1 this hgo
      · exact h0
    exact ⟨_, by rw [List.length_drop]; omega, k', sl', _, _, n', total', ev', re', s', _, rfl, rfl, hout3, hcat, h3, hd3, by simpa using hcs, f13, hkk⟩
end Go.Cps
namespace Go.Cps
open Go Go.Proofs
structure QF where
  b : Nat
  bf : Nat
  tb : TypeId
  tbf : TypeId
structure QSt where
  buf : List UInt8
  r : Nat
  w : Nat
  err : Bool
  lb : Int
  lr : Int
  x : List UInt8
  n : Nat
  total : Nat
  ev : Sk
  re : Bool
  s : St
def REnv.er (e : REnv) (b : Bool) : Value := if b then e.E else .nilIface
def REnv.all (e : REnv) : List Nat := e.pt :: e.mr :: e.tb :: e.S.ids
def qCells (e : REnv) (F : QF) (t : QSt) : Array Value := #[.slice (some ⟨F.bf, 0, none⟩) 4096 4096, .iface 189 (.agg #[.pointer (some ⟨e.pt, 0, none⟩)]), .int .i64 t.r, .int .i64 t.w, e.er t.err, .int .i64 t.lb, .int .i64 t.lr]
def QF.ids (e : REnv) (F : QF) : List Nat := F.b :: F.bf :: e.pt :: e.S.ids
def QSt.bufd (t : QSt) : List UInt8 := (t.buf.take t.w).drop t.r
def QSt.rest (t : QSt) : List UInt8 := t.bufd ++ t.x
structure QAt (e : REnv) (F : QF) (t : QSt) (H : Heap) : Prop where
  hb : H[F.b]? = some (.cells (qCells e F t) F.tb (0, 0))
  hbf : H[F.bf]? = some (.cells (t.buf.map byteV).toArray F.tbf (0, 0))
  rb : RB e t.x t.n t.total t.ev t.re t.s H
  full : ∃ tl, e.mode = some tl
  blen : t.buf.length = 4096
  rw : t.r ≤ t.w
  w4 : t.w ≤ 4096
  he : t.err = true → t.ev = .eof ∧ t.x = []
  ne : F.b ≠ F.bf
  da : F.b ∉ e.all ∧ F.bf ∉ e.all
  dB : e.B ≤ F.b ∧ e.B ≤ F.bf
  dv : blk e.S.v ≠ some F.b ∧ blk e.S.v ≠ some F.bf
theorem QAt.frm {e : REnv} {F : QF} {t : QSt} {H H' : Heap} {X : List Nat} (h : QAt e F t H) (f : Frm X H H') (hx : ∀ x ∈ X, x ≠ F.b ∧ x ≠ F.bf ∧ e.B ≤ x ∧ x ∉ e.all ∧ blk e.S.v ≠ some x) : QAt e F t H' :=
  { h with hb := f.get h.hb (fun hm => (hx _ hm).1 rfl), hbf := f.get h.hbf (fun hm => (hx _ hm).2.1 rfl), rb := h.rb.frm f (fun x hm => (hx x hm).2.2) }
theorem er_one (e : REnv) (b : Bool) : isOne (e.er b) = true := by cases b <;> rfl
theorem neq_qer (e : REnv) (b : Bool) : nilV2 .neq .nilIface (e.er b) = some (.bool b) := by cases b <;> rfl
theorem QAt.store {e : REnv} {F : QF} {t : QSt} {H : Heap} (h : QAt e F t H) {o : Nat} {v : Value} {K : Heap → Prop} (t' : QSt) (ho : o < 7) (hv : isOne v = true) (hc : (qCells e F t).setIfInBounds o v = qCells e F t')
    (e1 : t'.buf = t.buf) (e2 : t'.x = t.x ∧ t'.n = t.n ∧ t'.total = t.total ∧ t'.ev = t.ev ∧ t'.re = t.re ∧ t'.s = t.s) (rw : t'.r ≤ t'.w) (w4 : t'.w ≤ 4096) (he : t'.err = true → t.ev = .eof ∧ t.x = [])
    (hk : ∀ H', QAt e F t' H' → Frm [F.b] H H' → H'.size = H.size → K H') : Get (store1V (.pointer (some ⟨F.b, o, none⟩)) v H) K := by
  refine Store_of h.hb (by simpa [qCells] using ho) hv fun H1 hb1 f1 z1 => ?_
  rw [hc] at hb1
  obtain ⟨x1, x2, x3, x4, x5, x6⟩ := e2
  refine hk H1 ?_ f1 z1
  exact { hb := hb1, hbf := by rw [e1]; exact f1.get h.hbf (by simpa using h.ne.symm), rb := by
            rw [x1, x2, x3, x4, x5, x6]
            exact h.rb.frm f1 (fun x hm => by rw [List.mem_singleton] at hm; subst hm; exact ⟨h.dB.1, h.da.1, h.dv.1⟩)
          full := h.full, blen := by rw [e1]; exact h.blen, rw := rw, w4 := w4, he := by rw [x1, x4]; exact he, ne := h.ne, da := h.da, dB := h.dB, dv := h.dv }
theorem QAt.bytes {e : REnv} {F : QF} {t : QSt} {H : Heap} (h : QAt e F t H) : IsBytes H (.slice (some ⟨F.bf, 0, none⟩) 4096 4096) t.buf := by
  refine .inl ⟨F.bf, 0, 4096, by rw [h.blen], by rw [h.blen]; exact Nat.le_refl _, fun j hj => ?_⟩
  rw [cellH_of h.hbf]
  simp
def Rng2 (u : Value) (b hi : Nat) : Prop := ∃ o n c, u = .slice (some ⟨b, o, none⟩) n c ∧ o + n ≤ hi ∧ n ≤ c ∧ o + c ≤ 4096
theorem QAt.part {e : REnv} {F : QF} {t : QSt} {H : Heap} (h : QAt e F t H) {i j : Nat} (h1 : i ≤ j) (h2 : j ≤ 4096) :
    ∃ u, (∀ k k', sliceV 1 (.slice (some ⟨F.bf, 0, none⟩) 4096 4096) (some (.int k i)) (some (.int k' j)) none = some u) ∧ IsBytes H u ((t.buf.take j).drop i) ∧ Rng2 u F.bf j := by
  have e := h.bytes.sub (lo := i) (hi := j) h1 (by rw [h.blen]; exact h2)
  refine ⟨_, fun k k' => sliceV_of h1 h2 k k', ?_, ?_⟩
  · simpa [apply_ite] using e
  · split
    · exact ⟨0, j - i, 4096 - i, rfl, by omega, by omega, by omega⟩
    · exact ⟨0 + i * 1, j - i, 4096 - i, by simp, by omega, by omega, by omega⟩
theorem readErr2_ok {e : REnv} {F : QF} {t : QSt} {H : Heap} (h : QAt e F t H) : CallsH Tryz.prog 110 #[.pointer (some ⟨F.b, 0, none⟩)] H fun x H' => x = e.er t.err ∧ QAt e F { t with err := false } H' ∧ Frm [F.b] H H' ∧ H'.size = H.size := by
  apply s110
  simp only [c110, Q0, Q1, Q2, Q3, Q4, Q5, Q6, Q7, Q8, Q9, Qa, Qb, Qc, Qd, Qe, Qf, Qg, Qh, Qi, Qj, cellH_of h.hb, qCells]
  exact h.store { t with err := false } (by omega) rfl (by simp only [qCells, Qt, Qu, Qv]; rfl) rfl ⟨rfl, rfl, rfl, rfl, rfl, rfl⟩ h.rw h.w4 (by simp) fun H' h' f z => ⟨trivial, h', f, z⟩
theorem buffered2_ok {e : REnv} {F : QF} {t : QSt} {H : Heap} (h : QAt e F t H) : CallsH Tryz.prog 111 #[.pointer (some ⟨F.b, 0, none⟩)] H fun x H' => x = .int .i64 (t.w - t.r : Nat) ∧ H' = H := by
  apply s111
  have h1 := h.rw
  have h2 := h.w4
  have e : IntKind.i64.wrap ((t.w : Int) - (t.r : Int)) = ((t.w - t.r : Nat) : Int) := by rw [wrap_i64 (by omega) (by omega)]; omega
  simp only [c111, Q0, Q1, Q2, Q3, Q4, Q5, Q6, Q7, Q8, Q9, Qa, Qb, Qc, Qd, Qe, Qf, Qg, Qh, Qi, Qj, Qk, Ql, Qm, Qn, Qo, Qp, Qq, Qr, Qs, cellH_of h.hb, qCells, e, and_self]
structure Filled2 (t t' : QSt) : Prop where
  r0 : t'.r = 0
  rest : t'.rest = t.rest
  keep : (t'.buf.take (t.w - t.r)) = (t.buf.take t.w).drop t.r
  wle : t.w - t.r ≤ t'.w
  how : t'.err = true ∨ (t'.err = false ∧ t.w - t.r < t'.w)
theorem fill2_ok {e : REnv} {F : QF} {t : QSt} {H : Heap} (h : QAt e F t H) (he : t.err = false) (hw : t.w - t.r < 4096) :
    CallsH Tryz.prog 112 #[.pointer (some ⟨F.b, 0, none⟩)] H fun x H' => ∃ t', QAt e F t' H' ∧ Filled2 t t' ∧ Frm (F.ids e) H H' := by
  have hrw := h.rw
  have hw4 := h.w4
  have hne := h.ne
  apply s112
  unfold c112
  refine ⟨fun _ H1 => ∃ t1, QAt e F t1 H1 ∧ t1.r = 0 ∧ t1.w = t.w - t.r ∧ t1.err = false ∧ t1.x = t.x ∧ t1.buf.take t1.w = (t.buf.take t.w).drop t.r ∧ Frm [F.b, F.bf] H H1, ?_, ?_⟩
  · simp only [Q0, Q1, Q2, Q3, Q4, Q5, Q6, Q7, Q8, Q9, Qa, Qb, Qc, Qd, Qe, Qf, Qg, Qh, Qi, Qj, Qk, Ql, Qm, Qn, Qo, Qp, Qq, Qr, Qs, cellH_of h.hb, qCells]
    refine Br_intro (fun h0 => ?_) (fun h0 => ?_)
    · have h0' : 0 < t.r := by simpa using h0
      obtain ⟨u, hu, hub, _⟩ := h.part hrw hw4
      simp only [hu, Q6]
      refine copy_of h.hbf hub (by simp [h.blen]) ?_
      have hl : ((t.buf.take t.w).drop t.r).length = t.w - t.r := by simp [h.blen]; omega
      have hm : min ((t.buf.take t.w).drop t.r).length 4096 = t.w - t.r := by rw [hl]; omega
      rw [hm, List.take_of_length_le (by rw [hl]; exact Nat.le_refl _), putAt_spl (by rw [hl, h.blen]; omega)]
      generalize hH1 : upd H F.bf _ = H1
      have f1 : Frm [F.bf] H H1 := by rw [← hH1]; exact Frm.upd _ (by simp)
      have hbf1 : H1[F.bf]? = some (.cells ((spl t.buf 0 ((t.buf.take t.w).drop t.r)).map byteV).toArray F.tbf (0, 0)) := by rw [← hH1]; exact upd_same (lt_of_some h.hbf)
      have h1 : QAt e F { t with buf := spl t.buf 0 ((t.buf.take t.w).drop t.r) } H1 :=
        { h with hb := f1.get h.hb (by simpa using hne), hbf := hbf1, rb := h.rb.frm f1 (fun x hm => by rw [List.mem_singleton] at hm; subst hm; exact ⟨h.dB.2, h.da.2, h.dv.2⟩), blen := (spl_length (by rw [hl, h.blen]; omega)).trans h.blen }
      have e : IntKind.i64.wrap ((t.w : Int) - (t.r : Int)) = ((t.w - t.r : Nat) : Int) := by rw [wrap_i64 (by omega) (by omega)]; omega
      simp only [Q0, Q1, Q2, Q3, Q4, Q5, Q6, Q7, Q8, Q9, Qa, Qb, Qc, Qd, Qe, Qf, Qg, Qh, Qi, Qj, Qk, Ql, Qm, Qn, Qo, Qp, Qq, Qr, Qs, cellH_of h1.hb, qCells, e]
      refine Store_of h1.hb (by simp [qCells]) rfl fun H2 hb2 f2 z2 => ?_
      simp only [qCells, Qt, Qu, Qv] at hb2
      refine Store_of hb2 (by simp) rfl fun H3 hb3 f3 z3 => ?_
      simp only [Qt, Qu, Qv] at hb3
      have f23 := f2.trans f3
      have h3 : QAt _ F { t with buf := spl t.buf 0 ((t.buf.take t.w).drop t.r), r := 0, w := t.w - t.r } H3 :=
        { h1 with hb := hb3, hbf := f23.get h1.hbf (by simpa using hne.symm), rb := h1.rb.frm f23 (fun x hm => by rw [List.mem_singleton] at hm; subst hm; exact ⟨h.dB.1, h.da.1, h.dv.1⟩), rw := Nat.zero_le _, w4 := by simp only []; omega }
      refine ⟨_, h3, rfl, rfl, he, rfl, ?_, (f1.mono (by simp)).trans (f23.mono (by simp))⟩
      have := spl_take (buf := t.buf) (o := 0) (m := (t.buf.take t.w).drop t.r) (by rw [hl, h.blen]; omega)
      rw [hl] at this
      simpa using this
    · have h0' : t.r = 0 := by simp at h0; omega
      exact ⟨t, h, h0', by omega, he, rfl, by rw [h0', List.drop_zero], Frm.refl _ _⟩
  · rintro _ H1 ⟨t1, h1, r1, w1, e1, x1, b1, ff⟩
    refine Join_direct ?_
    have hw1 : t1.w < 4096 := by omega
    have hd : decide ((t1.w : Int) ≥ ((4096 : Nat) : Int)) = false := by simp; omega
    simp only [Q0, Q1, Q2, Q3, Q4, Q5, Q6, Q7, Q8, Q9, Qa, Qb, Qc, Qd, Qe, Qf, Qg, Qh, Qi, Qj, Qk, Ql, Qm, Qn, Qo, Qp, Qq, Qr, Qs, cellH_of h1.hb, qCells, hd]
    refine ⟨fun _ vs H' => vs = [.int .i64 100] ∧ H' = H1, ⟨0, rfl, rfl⟩, ?_⟩
    rintro _ _ _ ⟨rfl, rfl⟩
    have h100 : decide ((100 : Int) > 0) = true := by decide
    have hu := sliceV_lo (a := some ⟨F.bf, 0, none⟩) (n := 4096) (c := 4096) (size := 1) (lo := t1.w) (by omega) .i64
    rw [if_neg (by omega)] at hu
    simp only [Option.map_some, Q1, Nat.zero_add, Nat.mul_one] at hu
    simp only [Q0, Q1, Q2, Q3, Q4, Q5, Q6, Q7, Q8, Q9, Qa, Qb, Qc, Qd, Qe, Qf, Qg, Qh, Qi, Qj, Qk, Ql, Qm, Qn, Qo, Qp, Qq, Qr, Qs, cellH_of h1.hb, qCells, h100, hu, nilV_iface]
    refine invoke_of 225 meth189 body225 ?_
    have hcs : ((t1.buf.map byteV).toArray).size = 4096 := by simp [h1.blen]
    refine (partReadAt_ok (o := t1.w) (dn := 4096 - t1.w) (dc := 4096 - t1.w) rfl h1.rb h1.hbf (by rw [hcs]; omega) (Nat.le_refl _) (by omega) (by omega) h1.da.2 h1.dB.2 h1.dv.2).mono ?_
    rintro x H2 ⟨k, n', total', ev', re', s', rfl, hk1, hk2, h2, hbf2, f2, g1, g2⟩
    have hkl : (t1.x.take k).length = k := by simp; omega
    have hbl := h1.blen
    rw [putAt_spl (by rw [hkl, hbl]; omega)] at hbf2
    have hb2 := f2.get h1.hb (fun hm => by
      rcases List.mem_cons.1 hm with hm | hm
      · exact hne hm
      · refine h1.da.1 ?_
        simp only [REnv.all, List.mem_cons] at hm ⊢
        rcases hm with hm | hm
        · exact .inl hm
        · exact .inr (.inr (.inr hm)))
    have h2' : QAt e F { t1 with buf := spl t1.buf t1.w (t1.x.take k), x := t1.x.drop k, n := n', total := total', ev := ev', re := re', s := s' } H2 :=
      { h1 with hb := hb2, hbf := hbf2, rb := h2, blen := (spl_length (by rw [hkl, hbl]; omega)).trans hbl, he := by simp [e1] }
    have f02 : Frm (F.ids e) H H2 := (ff.mono (by simp [QF.ids])).trans (f2.mono (by
      intro x hx
      simp only [QF.ids, List.mem_cons] at hx ⊢
      exact .inr hx))
    simp only [Q0, Q1, Q2, Q3, Q4, Q5, Q6, Q7, Q8, Q9, Qa, Qb, Qc, Qd, Qe, Qf, Qg, Qh, Qi, Qj, Qk, Ql, Qm, Qn, Qo, Qp, Qq, Qr, Qs]
    have hd2 : decide ((k : Int) < 0) = false := by simp
    have hd3 : IntKind.i64.wrap ((t1.w : Int) + (k : Int)) = ((t1.w + k : Nat) : Int) := by rw [wrap_i64 (by omega) (by omega)]; omega
    refine Join_direct ?_
    simp only [hd2, Q0, Q1, Q2, Q3, Q4, Q5, Q6, Q7, Q8, Q9, Qa, Qb, Qc, Qd, Qe, Qf, Qg, Qh, Qi, Qj, Qk, Ql, Qm, Qn, Qo, Qp, Qq, Qr, Qs, cellH_of h2'.hb, qCells, hd3]
    have htk : (spl t1.buf t1.w (t1.x.take k)).take (t1.w + k) = t1.buf.take t1.w ++ t1.x.take k := by
      have := spl_take (buf := t1.buf) (o := t1.w) (m := t1.x.take k) (by rw [hkl, hbl]; omega)
      rwa [hkl] at this
    have hrest : ∀ er : Bool, ({ t1 with buf := spl t1.buf t1.w (t1.x.take k), w := t1.w + k, err := er, x := t1.x.drop k, n := n', total := total', ev := ev', re := re', s := s' } : QSt).rest = t.rest := by
      intro er
      simp only [QSt.rest, QSt.bufd, r1, List.drop_zero]
      rw [htk, List.append_assoc, List.take_append_drop, b1, x1]
    have hkeep : (spl t1.buf t1.w (t1.x.take k)).take (t.w - t.r) = (t.buf.take t.w).drop t.r := by
      have : ((spl t1.buf t1.w (t1.x.take k)).take (t1.w + k)).take t1.w = t1.buf.take t1.w := by
        rw [htk, List.take_left']
        simp; omega
      rw [List.take_take, Nat.min_eq_left (by omega)] at this
      rw [← w1, this, b1]
    refine h2'.store { t1 with buf := spl t1.buf t1.w (t1.x.take k), w := t1.w + k, x := t1.x.drop k, n := n', total := total', ev := ev', re := re', s := s' } (by omega) rfl (by simp only [qCells, Qt, Qu, Qv]) rfl ⟨rfl, rfl, rfl, rfl, rfl, rfl⟩ (by simp only []; omega) (by simp only []; omega) (by simp [e1]) fun H3 h3 f3 z3 => ?_
    simp only [skV_neq, Q6]
    refine Br_intro (fun hp => ?_) (fun hp => ?_)
    · have hn0 : n' = 0 := by
        rcases Nat.eq_zero_or_pos n' with hz | hz
        · exact hz
        · rw [if_neg (by omega)] at hp; simp [Sk.isGo] at hp
      subst hn0
      rw [if_pos rfl] at hp ⊢
      obtain ⟨tl, htl⟩ := h.full
      obtain ⟨_, _, q1, q2⟩ := h2.full tl htl
      have hev : ev' = .eof := by
        cases ev' with
        | go => simp [Sk.isGo] at hp
        | eof => rfl
        | re => exact absurd rfl q1
      subst hev
      have hx0 : t1.x.drop k = [] := List.eq_nil_of_length_eq_zero (q2 rfl).symm
      refine h3.store { t1 with buf := spl t1.buf t1.w (t1.x.take k), w := t1.w + k, x := t1.x.drop k, err := true, n := 0, total := total', ev := .eof, re := re', s := s' } (by omega) rfl (by simp only [qCells, Qt, Qu, Qv]; rfl) rfl ⟨rfl, rfl, rfl, rfl, rfl, rfl⟩ (by simp only []; omega) (by simp only []; omega) (fun _ => ⟨rfl, hx0⟩) fun H4 h4 f4 z4 => ?_
      exact ⟨_, h4, ⟨r1, hrest true, hkeep, by simp only []; omega, .inl rfl⟩, (f02.trans (f3.mono (by simp [QF.ids]))).trans (f4.mono (by simp [QF.ids]))⟩
    · have hgo : (if n' = 0 then ev' else Sk.go) = .go := (Sk.isGo_iff _).1 (by simpa using hp)
      have hk0 : 0 < k := by
        rcases Nat.eq_zero_or_pos k with h0 | h0
        · have := g2 h0
          rw [if_pos this] at hgo
          exact g1 this hgo
        · exact h0
      have hd4 : decide ((k : Int) > 0) = true := by simp; omega
      simp only [hd4, Q7]
      exact ⟨_, h3, ⟨r1, hrest t1.err, hkeep, by simp only []; omega, .inr ⟨e1, by simp only []; omega⟩⟩, f02.trans (f3.mono (by simp [QF.ids]))⟩
end Go.Cps
