/-
  A part of the proof: bytes.Buffer that is only written: Write, WriteString, Bytes. bytes.Buffer: Write, WriteString, Bytes. append of bytes to an owned slice; all, discard, Part.Read, Part.Close. A part's body read whole: Part.Read, all; discard behind its end. A range over a string of ASCII; SetBoundary of a boundary that is taken.
  Conditions: each contract's own.
-/
import Derived.Laws.Append
import Derived.Laws.RangeString
import Derived.Test.YteajpfckbnfdaaaGreatDoorH11
set_option linter.all false
namespace Go.Cps
open Go Go.Proofs
def Own (H : Heap) (b : Nat) (k : Option Nat) (sl : Value) (l : List UInt8) : Prop := match k with
  | none => sl = .slice none 0 0 ∧ l = []
  | some g => ∃ cells : Array Value, sl = .slice (some ⟨g, 0, none⟩) l.length cells.size ∧ H[g]? = some (.cells cells 5 (0, 0)) ∧ cells.toList.take l.length = l.map byteV ∧ l.length ≤ cells.size ∧ cells.size ≤ maxLen ∧ g ≠ b
def BufAt (b : Nat) (k : Option Nat) (l : List UInt8) (H : Heap) : Prop := ∃ sl lr, H[b]? = some (.cells #[sl, .int .i64 0, .int .i8 lr] 53 (0, 0)) ∧ Own H b k sl l
theorem Own.bytes {H : Heap} {b : Nat} {k : Option Nat} {sl : Value} {l : List UInt8} (h : Own H b k sl l) : IsBytes H sl l := by
  cases k with
  | none => exact .inr ⟨none, h⟩
  | some g =>
    obtain ⟨cells, rfl, hg, ht, hle, _, _⟩ := h
    refine .inl ⟨g, 0, _, rfl, hle, fun j hj => ?_⟩
    rw [cellH_of hg, Nat.zero_add]
    have : (cells.toList.take l.length)[j]? = (l.map byteV)[j]? := by rw [ht]
    rw [List.getElem?_take, if_pos hj, List.getElem?_map] at this
    simpa using this
theorem Own.frm {H H' : Heap} {b : Nat} {k : Option Nat} {sl : Value} {l : List UInt8} {X : List Nat} (h : Own H b k sl l) (f : Frm X H H') (hk : ∀ g, k = some g → g ∉ X) : Own H' b k sl l := by
  cases k with
  | none => exact h
  | some g =>
    obtain ⟨cells, h1, hg, h2⟩ := h
    exact ⟨cells, h1, f.get hg (hk g rfl), h2⟩
theorem BufAt.frm {H H' : Heap} {b : Nat} {k : Option Nat} {l : List UInt8} {X : List Nat} (h : BufAt b k l H) (f : Frm X H H') (hb : b ∉ X) (hk : ∀ g, k = some g → g ∉ X) : BufAt b k l H' := by
  obtain ⟨sl, lr, h1, h2⟩ := h
  exact ⟨sl, lr, f.get h1 hb, h2.frm f hk⟩
theorem Own.shape {H : Heap} {b : Nat} {k : Option Nat} {sl : Value} {l : List UInt8} (h : Own H b k sl l) : ∃ base c, sl = .slice base l.length c ∧ l.length ≤ c ∧ c ≤ maxLen := by
  cases k with
  | none => obtain ⟨rfl, rfl⟩ := h; exact ⟨none, 0, rfl, Nat.le_refl _, by simp⟩
  | some g => obtain ⟨cells, rfl, hg, ht, hle, hm, _⟩ := h; exact ⟨_, _, rfl, hle, hm⟩
theorem tryGrow_ok {b m c n : Nat} {base : Option Addr} {o lr : Value} {H : Heap} (h : H[b]? = some (.cells #[.slice base m c, o, lr] 53 (0, 0))) (hm : m ≤ c) (hc : c ≤ maxLen) (hn : n < 2 ^ 40) (hmn : m < 2 ^ 40) :
    CallsH Tryz.prog 85 #[.pointer (some ⟨b, 0, none⟩), .int .i64 n] H fun x H' => (n ≤ c - m ∧ x = .tuple #[.int .i64 m, .bool true] ∧ H'[b]? = some (.cells #[.slice base (m + n) c, o, lr] 53 (0, 0)) ∧ Frm [b] H H' ∧ H'.size = H.size) ∨
      (c - m < n ∧ x = .tuple #[.int .i64 0, .bool false] ∧ H' = H) := by
  unfold maxLen at hc
  apply s83
  have e1 : IntKind.i64.wrap ((c : Int) - (m : Int)) = ((c - m : Nat) : Int) := by rw [wrap_i64 (by omega) (by omega)]; omega
  have e2 : IntKind.i64.wrap ((m : Int) + (n : Int)) = ((m + n : Nat) : Int) := by rw [wrap_i64 (by omega) (by omega)]; omega
  simp only [c83, Q0, Q1, Q2, Q3, Q4, Q5, Q6, Q7, Q8, Q9, Qa, Qb, Qc, Qd, Qe, Qf, Qg, Qh, Qi, Qj, Qk, Ql, Qm, Qn, Qo, Qp, Qq, Qr, Qs, cellH_of h, e1, e2]
  refine Br_intro (fun hd => ?_) (fun hd => ?_)
  · have hd' : n ≤ c - m := by simp at hd; omega
    rw [sliceV_hi (by omega), Q6]
    refine Store_of h (by simp) rfl fun H1 hb1 f1 z1 => ?_
    simp only [Qt, Qu, Qv] at hb1
    exact .inl ⟨hd', trivial, hb1, f1, z1⟩
  · have hd' : c - m < n := by simp at hd; omega
    exact .inr ⟨hd', trivial, trivial⟩
def Room (H : Heap) (b : Nat) (l : List UInt8) (n : Nat) (k : Option Nat) (sl : Value) : Prop := match k with
  | none => sl = .slice none 0 0 ∧ l = [] ∧ n = 0
  | some g => ∃ cells : Array Value, sl = .slice (some ⟨g, 0, none⟩) (l.length + n) cells.size ∧ H[g]? = some (.cells cells 5 (0, 0)) ∧ cells.toList.take l.length = l.map byteV ∧ l.length + n ≤ cells.size ∧ cells.size ≤ maxLen ∧ g ≠ b
theorem Own.room {H : Heap} {b n : Nat} {k : Option Nat} {base : Option Addr} {m c : Nat} {l : List UInt8} (h : Own H b k (.slice base m c) l) (hn : n ≤ c - m) : m = l.length ∧ Room H b l n k (.slice base (m + n) c) := by
  cases k with
  | none =>
    obtain ⟨h1, rfl⟩ := h
    cases h1
    have : n = 0 := by omega
    subst this
    exact ⟨rfl, rfl, rfl, rfl⟩
  | some g =>
    obtain ⟨cells, h1, hg, ht, hle, hm, hne⟩ := h
    cases h1
    exact ⟨rfl, cells, rfl, hg, ht, by omega, hm, hne⟩
theorem Room.frm {H H' : Heap} {b n : Nat} {k : Option Nat} {sl : Value} {l : List UInt8} {X : List Nat} (h : Room H b l n k sl) (f : Frm X H H') (hk : ∀ g, k = some g → g ∉ X) : Room H' b l n k sl := by
  cases k with
  | none => exact h
  | some g =>
    obtain ⟨cells, h1, hg, h2⟩ := h
    exact ⟨cells, h1, f.get hg (hk g rfl), h2⟩
theorem Own.ne {H : Heap} {b : Nat} {k : Option Nat} {sl : Value} {l : List UInt8} (h : Own H b k sl l) : ∀ g, k = some g → g ≠ b := by
  rintro g rfl
  obtain ⟨_, _, _, _, _, _, h⟩ := h
  exact h
theorem byteV_one (l : List UInt8) : ∀ v ∈ l.map byteV, v.oneCell' = true := by
  intro v hv
  obtain ⟨b, _, rfl⟩ := List.mem_map.1 hv
  rfl
theorem len_ok {b m c : Nat} {base : Option Addr} {lr : Value} {H : Heap} (h : H[b]? = some (.cells #[.slice base m c, .int .i64 0, lr] 53 (0, 0))) (hm : m < 2 ^ 40) :
    CallsH Tryz.prog 115 #[.pointer (some ⟨b, 0, none⟩)] H fun x H' => x = .int .i64 m ∧ H' = H := by
  apply s101
  have e : IntKind.i64.wrap ((m : Int) - 0) = m := by rw [wrap_i64 (by omega) (by omega)]; omega
  simp only [c101, Q0, Q1, Q2, Q3, Q4, Q5, Q6, Q7, Q8, Q9, Qa, Qb, Qc, Qd, Qe, Qf, Qg, Qh, Qi, Qj, Qk, Ql, Qm, Qn, Qo, Qp, Qq, Qr, Qs, cellH_of h, e, and_self]
theorem grow_ok {b n : Nat} {k : Option Nat} {l : List UInt8} {sl lr : Value} {H : Heap} (h : H[b]? = some (.cells #[sl, .int .i64 0, lr] 53 (0, 0))) (ho : Own H b k sl l) (hn : l.length + n < 2 ^ 40) (hbig : ∀ base m c, sl = .slice base m c → c - m < n) :
    CallsH Tryz.prog 86 #[.pointer (some ⟨b, 0, none⟩), .int .i64 n] H fun x H' => x = .int .i64 l.length ∧ ∃ g sl', H'[b]? = some (.cells #[sl', .int .i64 0, lr] 53 (0, 0)) ∧ Room H' b l n (some g) sl' ∧ Frm [b] H H' ∧ H.size ≤ g := by
  obtain ⟨base, c, rfl, hlc, hcm⟩ := ho.shape
  have hbg := hbig _ _ _ rfl
  have hcm' := hcm
  unfold maxLen at hcm'
  have hbs := lt_of_some h
  apply s84
  unfold c84
  refine (len_ok h (by omega)).mono ?_
  rintro x H1 ⟨rfl, rfl⟩
  refine Join_direct ?_
  refine ⟨fun vs H' => vs = [.bool false] ∧ H' = H1, ?_, ?_⟩
  · simp only [Q0, Q1, Q2, Q3, Q4, Q5, Q6, Q7, Q8, Q9, Qa, Qb, Qc, Qd, Qe, Qf, Qg, Qh, Qi, Qj, Qk, Ql, Qm, Qn, Qo, Qp, Qq, Qr, Qs, cellH_of h]
    refine Br_intro (fun h0 => ?_) (fun h0 => ?_) <;> simp
  · rintro _ H1 ⟨rfl, rfl⟩
    simp only [Q0, Q1, Q2, Q3, Q4, Q5, Q6, Q7, Q8, Q9, Qa, Qb, Qc, Qd, Qe, Qf, Qg, Qh, Qi, Qj]
    refine (tryGrow_ok h hlc hcm (by omega) (by omega)).mono ?_
    rintro x H2 (⟨hh, _⟩ | ⟨_, rfl, rfl⟩)
    · omega
    simp only [Q0, Q1, Q2, Q3, Q4, Q5, Q6, Q7, Q8, Q9, Qa, Qb, Qc, Qd, Qe, Qf, Qg, Qh, Qi, Qj]
    refine ⟨fun vs H' => H' = H2 ∧ vs = [.bool (base.isNone && decide ((n : Int) ≤ 64))], ?_, ?_⟩
    · simp only [Q0, Q1, Q2, Q3, Q4, Q5, Q6, Q7, Q8, Q9, Qa, Qb, Qc, Qd, Qe, Qf, Qg, Qh, Qi, Qj, Qk, Ql, Qm, Qn, Qo, Qp, Qq, Qr, Qs, cellH_of h, nilV2_eql_slice]
      refine Br_intro (fun h0 => ?_) (fun h0 => ?_) <;> simp [h0]
    · rintro _ H2 ⟨rfl, rfl⟩
      simp only [Q0, Q1, Q2, Q3, Q4, Q5, Q6, Q7, Q8, Q9, Qa, Qb, Qc, Qd, Qe, Qf, Qg, Qh, Qi, Qj]
      refine Br_intro (fun hd => ?_) (fun hd => ?_)
      · -- a first small row
        simp only [Bool.and_eq_true, decide_eq_true_eq] at hd
        have hl0 : l = [] := by
          cases k with
          | none => exact ho.2
          | some g => obtain ⟨_, h1, _⟩ := ho; cases h1; simp at hd
        subst hl0
        refine ⟨.i64, .i64, n, 64, rfl, rfl, by omega, by omega, by omega, ?_⟩
        have e1 : (#[(.int .u8 0)] : Array Value).size = 1 := rfl
        rw [e1, zeros_eq 64]
        simp only [Q0, Q1, Q2, Q3, Q4, Q5, Q6, Q7, Q8, Q9, Qa, Qb, Qc, Qd, Qe, Qf, Qg, Qh, Qi, Qj]
        rw [show (List.replicate 64 (0 : UInt8)) = zbuf 64 from rfl]
        generalize hH3 : H2.push (.cells ((zbuf 64).map byteV).toArray 5 (0, 0)) = H3
        have f3 : Frm [] H2 H3 := by rw [← hH3]; exact Frm.push _ _ _
        have hg3 : H3[H2.size]? = some (.cells ((zbuf 64).map byteV).toArray 5 (0, 0)) := by rw [← hH3]; exact push_same _ _
        refine Store_of (f3.get h (by simp)) (by simp) rfl fun H4 hb4 f4 z4 => ?_
        simp only [Qt, Qu, Qv] at hb4
        refine ⟨rfl, H2.size, _, hb4, ⟨_, ?_, f4.get hg3 (by simp; omega), rfl, by simp [zbuf_length]; omega, by simp [zbuf_length, maxLen], by omega⟩, (f3.mono (by simp)).trans f4, Nat.le_refl _⟩
        simp [zbuf_length]
      · simp only [Q0, Q1, Q2, Q3, Q4, Q5, Q6, Q7, Q8, Q9, Qa, Qb, Qc, Qd, Qe, Qf, Qg, Qh, Qi, Qj, cellH_of h]
        refine ⟨fun _ H' => ∃ g cells, H'[b]? = some (.cells #[.slice (some ⟨g, 0, none⟩) l.length cells.size, .int .i64 0, lr] 53 (0, 0)) ∧ H'[g]? = some (.cells cells 5 (0, 0)) ∧ cells.toList.take l.length = l.map byteV ∧ l.length + n ≤ cells.size ∧ cells.size ≤ maxLen ∧ g ≠ b ∧ Frm [b] H2 H' ∧ H2.size ≤ g, ?_, ?_⟩
        · have q1 : arithV .quo .i64 (.int .i64 c) (.int .i64 2) = some (.int .i64 ((c / 2 : Nat) : Int)) := by
            simp only [arithV]
            rw [if_pos ⟨trivial, trivial⟩, if_neg (by decide)]
            have : ((c : Int).tdiv 2) = ((c / 2 : Nat) : Int) := by rw [Int.tdiv_eq_ediv_of_nonneg (by omega)]; omega
            rw [this, wrap_i64 (by omega) (by omega)]
          have e2 : IntKind.i64.wrap (((c / 2 : Nat) : Int) - (l.length : Int)) = ((c / 2 : Nat) : Int) - (l.length : Int) := wrap_i64 (by omega) (by omega)
          have d1 : decide ((n : Int) ≤ ((c / 2 : Nat) : Int) - (l.length : Int)) = false := by simp; omega
          have e3 : IntKind.i64.wrap (9223372036854775807 - (c : Int)) = 9223372036854775807 - (c : Int) := wrap_i64 (by omega) (by omega)
          have e4 : IntKind.i64.wrap (9223372036854775807 - (c : Int) - (n : Int)) = 9223372036854775807 - (c : Int) - (n : Int) := wrap_i64 (by omega) (by omega)
          have d2 : decide ((c : Int) > 9223372036854775807 - (c : Int) - (n : Int)) = false := by simp; omega
          have e5 : IntKind.i64.wrap (0 + (n : Int)) = (n : Int) := by rw [wrap_i64 (by omega) (by omega)]; omega
          have s1 : sliceV 1 (.slice base l.length c) (some (.int .i64 0)) none none = some (.slice base l.length c) := by
            have := sliceV_lo (a := base) (n := l.length) (c := c) (size := 1) (lo := 0) (Nat.zero_le _) .i64
            rw [show ((0 : Nat) : Int) = 0 from rfl] at this
            rw [this]
            cases base with
            | none => simp
            | some a => simp [Addr.add]
          simp only [Q0, Q1, Q2, Q3, Q4, Q5, Q6, Q7, Q8, Q9, Qa, Qb, Qc, Qd, Qe, Qf, Qg, Qh, Qi, Qj, Qk, Ql, Qm, Qn, Qo, Qp, Qq, Qr, Qs, q1, e2, d1, e3, e4, d2, e5, s1, cellH_of h]
          have hn1 : 1 ≤ n := by omega
          cases k with
          | none =>
            obtain ⟨h1, hl0⟩ := ho
            subst hl0
            cases h1
            refine (growNil_ok hn1 (by omega)).mono ?_
            rintro x H3 ⟨cap2, cells, rfl, hg3, hsz, hle, hmx, f3⟩
            refine Store_of (f3.get h (by simp)) (by simp) rfl fun H4 hb4 f4 z4 => ?_
            simp only [Qt, Qu, Qv] at hb4
            refine ⟨H2.size, cells, by rw [hb4, hsz]; rfl, f4.get hg3 (by simp; omega), rfl, by simp; omega, by omega, by omega, (f3.mono (by simp)).trans f4, Nat.le_refl _⟩
          | some g =>
            obtain ⟨cells, h1, hg, ht, hle, hm, hne⟩ := ho
            cases h1
            refine (growSlice_ok hg rfl hle hn1 (by omega) (by omega) (by rw [ht]; exact byteV_one l)).mono ?_
            rintro x H3 ⟨cap2, cells2, rfl, hg3, hsz, htk, hle2, hmx, f3⟩
            refine Store_of (f3.get h (by simp)) (by simp) rfl fun H4 hb4 f4 z4 => ?_
            simp only [Qt, Qu, Qv] at hb4
            refine ⟨H2.size, cells2, by rw [hb4, hsz], f4.get hg3 (by simp; omega), by rw [htk, ht], by omega, by omega, by omega, (f3.mono (by simp)).trans f4, Nat.le_refl _⟩
        · rintro _ H3 ⟨g, cells, hb3, hg3, ht, hle, hmx, hne, f3, hge⟩
          have e6 : IntKind.i64.wrap ((l.length : Int) + (n : Int)) = ((l.length + n : Nat) : Int) := by rw [wrap_i64 (by omega) (by omega)]; omega
          refine Store_of hb3 (by simp) rfl fun H4 hb4 f4 z4 => ?_
          simp only [Qt, Qu, Qv] at hb4
          simp only [Q0, Q1, Q2, Q3, Q4, Q5, Q6, Q7, Q8, Q9, Qa, Qb, Qc, Qd, Qe, Qf, Qg, Qh, Qi, Qj, Qk, Ql, Qm, Qn, Qo, Qp, Qq, Qr, Qs, cellH_of hb4, e6]
          rw [sliceV_hi (by omega), Q6]
          refine Store_of hb4 (by simp) rfl fun H5 hb5 f5 z5 => ?_
          simp only [Qt, Qu, Qv] at hb5
          have f45 := f4.trans f5
          exact ⟨trivial, g, _, hb5, ⟨cells, rfl, f45.get hg3 (by simpa using hne), ht, hle, hmx, hne⟩, f3.trans f45, hge⟩
end Go.Cps
namespace Go.Cps
open Go Go.Proofs
theorem copy_gen {H : Heap} {bf o dl dc : Nat} {cs : Array Value} {t : TypeId} {x : Value} {l : List UInt8} {K : Value → Heap → Prop} (hb : H[bf]? = some (.cells cs t (0, 0))) (h2 : countV x = some l.length) (h1 : elemsV 1 (min l.length dl) x H = some ((l.take (min l.length dl)).map byteV)) (hle : o + dl ≤ cs.size)
    (h : K (.int .i64 (min l.length dl : Nat)) (upd H bf (.cells (putAt cs o ((l.take (min l.length dl)).map byteV)) t (0, 0)))) : Copy 1 (.slice (some ⟨bf, o, none⟩) dl dc) x H K := by
  refine ⟨_, dl, dc, l.length, _, rfl, h2, h1, _, stores_upd _ H bf o 0 cs t hb (by simp; omega) (fun v hv => by
    obtain ⟨b, _, rfl⟩ := List.mem_map.1 hv; rfl), h⟩
def Src (H : Heap) (x : Value) (l : List UInt8) : Prop := countV x = some l.length ∧ ∀ m, m ≤ l.length → elemsV 1 m x H = some ((l.take m).map byteV)
theorem IsBytes.src {H : Heap} {x : Value} {l : List UInt8} (h : IsBytes H x l) : Src H x l := by
  refine ⟨(h.elems (m := 0) (Nat.zero_le _)).2, fun m hm => (h.elems hm).1⟩
theorem strVal_src (H : Heap) (l : List UInt8) : Src H (strVal l) l := by
  refine ⟨by simp [strVal, countV, ByteArray.size], fun m hm => ?_⟩
  simp only [strVal, elemsV, Option.some.injEq]
  have : ((⟨l.toArray⟩ : ByteArray).extract 0 m).data = (l.take m).toArray := by
    simp [ByteArray.data_extract]
  rw [this]
  simp only [List.map_toArray, List.map_take]
  rfl
theorem putAt_take {cells : Array Value} {l d : List UInt8} (ht : cells.toList.take l.length = l.map byteV) (hle : l.length + d.length ≤ cells.size) :
    (putAt cells l.length (d.map byteV)).toList.take (l ++ d).length = (l ++ d).map byteV := by
  apply List.ext_getElem?
  intro i
  rw [List.getElem?_take]
  by_cases hi : i < (l ++ d).length
  · rw [if_pos hi, Array.getElem?_toList, putAt_get _ _ _ _ (by simpa using hle), List.map_append]
    rw [List.length_append] at hi
    by_cases hi2 : i < l.length
    · rw [if_neg (by omega), List.getElem?_append_left (by simpa using hi2), ← ht, List.getElem?_take, if_pos hi2, Array.getElem?_toList]
    · rw [if_pos ⟨by omega, by simp; omega⟩, List.getElem?_append_right (by simp; omega)]
      simp
  · rw [if_neg hi, List.getElem?_eq_none (by simpa using hi)]
theorem put_ok {b n : Nat} {k : Option Nat} {l d : List UInt8} {sl x : Value} {lr : Int} {H : Heap} {K : Value → Heap → Prop} (h : H[b]? = some (.cells #[sl, .int .i64 0, .int .i8 lr] 53 (0, 0))) (hr : Room H b l n k sl) (hx : Src H x d) (hn : n = d.length) (hl : l.length + n < 2 ^ 40)
    (hk : ∀ H', BufAt b k (l ++ d) H' → Frm k.toList H H' → H'.size = H.size → K (.int .i64 d.length) H') : Get (sliceV 1 sl (some (.int .i64 l.length)) none none) fun y => Copy 1 y x H K := by
  subst hn
  cases k with
  | none =>
    obtain ⟨rfl, rfl, hd⟩ := hr
    have hd' : d = [] := List.eq_nil_of_length_eq_zero hd
    subst hd'
    refine ⟨.slice none 0 0, rfl, none, 0, 0, 0, [], rfl, hx.1, by simpa using hx.2 0 (Nat.le_refl _), ?_⟩
    exact ⟨H, rfl, hk H ⟨_, lr, h, rfl, rfl⟩ (Frm.refl _ _) rfl⟩
  | some g =>
    obtain ⟨cells, rfl, hg, ht, hle, hm, hne⟩ := hr
    rw [sliceV_lo (by omega), Q6]
    have e : ∃ o, (if cells.size = l.length then some (⟨g, 0, none⟩ : Addr) else (some (⟨g, 0, none⟩ : Addr)).map (·.add (l.length * 1))) = some ⟨g, o, none⟩ ∧ (o = l.length ∨ d = []) ∧ o + d.length ≤ cells.size := by
      by_cases hc : cells.size = l.length
      · rw [if_pos hc]
        exact ⟨0, rfl, .inr (List.eq_nil_of_length_eq_zero (by omega)), by omega⟩
      · rw [if_neg hc]
        exact ⟨l.length, by simp, .inl rfl, hle⟩
    obtain ⟨o, ho, hod, hole⟩ := e
    rw [ho]
    have hmin : min d.length (l.length + d.length - l.length) = d.length := by omega
    refine copy_gen hg hx.1 (by rw [hmin]; exact hx.2 _ (Nat.le_refl _)) (by omega) ?_
    rw [hmin, List.take_length]
    have hput : putAt cells o (d.map byteV) = putAt cells l.length (d.map byteV) := by
      rcases hod with rfl | rfl
      · rfl
      · rfl
    rw [hput]
    refine hk _ ⟨_, lr, (Frm.upd (S := [g]) _ (by simp)).get h (by simpa using hne.symm), putAt cells l.length (d.map byteV), ?_, upd_same (lt_of_some hg), putAt_take ht hle, by simp; omega, by simpa using hm, hne⟩ (Frm.upd _ (by simp)) (by simp)
    simp
theorem write_core {b : Nat} {k : Option Nat} {l d : List UInt8} {x : Value} {H : Heap} {R : Value → Heap → Prop} (h : BufAt b k l H) (hx : ∀ H', Frm [b] H H' → Src H' x d) (hlen : l.length + d.length < 2 ^ 40)
    (hR : ∀ k' H', BufAt b k' (l ++ d) H' → Frm (b :: k.toList) H H' → (k' = k ∨ ∃ g, k' = some g ∧ H.size ≤ g) → R (.tuple #[.int .i64 d.length, .nilIface]) H') :
      Get (store1V (.pointer (some ⟨b, 2, none⟩)) (.int .i8 0) H) fun H =>
        CallsH Tryz.prog 85 #[.pointer (some ⟨b, 0, none⟩), .int .i64 d.length] H fun x15 H =>
        Get (extractV x15 0) fun x16 =>
        Get (extractV x15 1) fun x17 =>
        Join (fun K1 =>
        Get (unV .not x17) fun x19 =>
        Br x19 (
        CallsH Tryz.prog 86 #[.pointer (some ⟨b, 0, none⟩), .int .i64 d.length] H fun x23 H =>
        K1 [x23] H) (
        K1 [x16] H)) fun vs2 H =>
        Fld 0 (.pointer (some ⟨b, 0, none⟩)) H fun x27 =>
        Get (sliceV 1 x27 (some (nth vs2 0)) none none) fun x29 =>
        Copy 1 x29 x H fun x31 H =>
        R (.tuple #[x31, .nilIface]) H := by
  obtain ⟨sl, lr, hb, ho⟩ := h
  obtain ⟨base, c, rfl, hlc, hcm⟩ := ho.shape
  refine Store_of hb (by simp) rfl fun H1 hb1 f1 z1 => ?_
  simp only [Qt, Qu, Qv] at hb1
  have ho1 := ho.frm f1 (fun g hg => by simpa using ho.ne g hg)
  have post : ∀ H3 k' sl', H3[b]? = some (.cells #[sl', .int .i64 0, .int .i8 0] 53 (0, 0)) → Room H3 b l d.length k' sl' → Frm [b] H H3 → (k' = k ∨ ∃ g, k' = some g ∧ H.size ≤ g) →
      Fld 0 (.pointer (some ⟨b, 0, none⟩)) H3 fun x27 => Get (sliceV 1 x27 (some (.int .i64 l.length)) none none) fun x29 => Copy 1 x29 x H3 fun x31 H => R (.tuple #[x31, .nilIface]) H := by
    intro H3 k' sl' hb3 hr3 f3 hk3
    simp only [Q0, Q1, Q2, Q3, Q4, Q5, Q6, Q7, Q8, Q9, Qa, Qb, Qc, Qd, Qe, Qf, Qg, Qh, Qi, Qj, cellH_of hb3]
    refine put_ok hb3 hr3 (hx H3 f3) rfl hlen fun H4 h4 f4 z4 => ?_
    refine hR k' H4 h4 ?_ hk3
    refine ⟨by have := f3.size; omega, fun i hi hn => ?_⟩
    rw [f4.same i (by have := f3.size; omega) (fun hc => ?_), f3.same i hi (fun hc => hn (by simp at hc; simp [hc]))]
    rcases hk3 with rfl | ⟨g, rfl, hg⟩
    · exact hn (List.mem_cons_of_mem _ hc)
    · simp at hc; omega
  refine (tryGrow_ok hb1 hlc hcm (by omega) (by omega)).mono ?_
  rintro y H2 (⟨hle, rfl, hb2, f2, z2⟩ | ⟨hgt, rfl, rfl⟩)
  · simp only [Q0, Q1, Q2, Q3, Q4, Q5, Q6, Q7, Q8, Q9, Qa, Qb, Qc, Qd, Qe, Qf, Qg, Qh, Qi, Qj]
    refine Join_direct ?_
    simp only [Q0, Q1, Q2, Q3, Q4, Q5, Q6, Q7, Q8, Q9, Qa, Qb, Qc, Qd, Qe, Qf, Qg, Qh, Qi, Qj, Bool.not_true]
    have hroom := (ho1.room hle).2
    have hp := post H2 k _ hb2 (hroom.frm f2 (fun g hg => by simpa using ho.ne g hg)) (f1.trans f2) (.inl rfl)
    simpa only [Q0, Q1, Nat.zero_add] using hp
  · simp only [Q0, Q1, Q2, Q3, Q4, Q5, Q6, Q7, Q8, Q9, Qa, Qb, Qc, Qd, Qe, Qf, Qg, Qh, Qi, Qj]
    refine Join_direct ?_
    simp only [Q0, Q1, Q2, Q3, Q4, Q5, Q6, Q7, Q8, Q9, Qa, Qb, Qc, Qd, Qe, Qf, Qg, Qh, Qi, Qj, Bool.not_false]
    refine (grow_ok hb1 ho1 hlen (fun base' m' c' he => by cases he; exact hgt)).mono ?_
    rintro y H3 ⟨rfl, g, sl', hb3, hr3, f3, hg⟩
    have hp := post H3 (some g) sl' hb3 hr3 (f1.trans f3) (.inr ⟨g, rfl, by omega⟩)
    simpa only [Q0, Q1, Nat.zero_add] using hp
theorem bufWrite_ok {b : Nat} {k : Option Nat} {l d : List UInt8} {x : Value} {H : Heap} (h : BufAt b k l H) (hx : IsBytes H x d) (hxb : ∀ y, blk x = some y → y ≠ b) (hlen : l.length + d.length < 2 ^ 40) :
    CallsH Tryz.prog 223 #[.pointer (some ⟨b, 0, none⟩), x] H fun r H' => r = .tuple #[.int .i64 d.length, .nilIface] ∧ ∃ k', BufAt b k' (l ++ d) H' ∧ Frm (b :: k.toList) H H' ∧ (k' = k ∨ ∃ g, k' = some g ∧ H.size ≤ g) := by
  apply s209
  simp only [c209, Qe, Q6, Qd, Q1, Nat.zero_add, hx.len]
  refine write_core (R := fun r H' => r = .tuple #[.int .i64 d.length, .nilIface] ∧ ∃ k', BufAt b k' (l ++ d) H' ∧ Frm (b :: k.toList) H H' ∧ (k' = k ∨ ∃ g, k' = some g ∧ H.size ≤ g)) h (fun H' f => (hx.frm f (fun y hy => by simpa using hxb y hy)).src) hlen fun k' H' h1 h2 h3 => ⟨rfl, k', h1, h2, h3⟩
theorem bufWriteString_ok {b : Nat} {k : Option Nat} {l d : List UInt8} {H : Heap} (h : BufAt b k l H) (hlen : l.length + d.length < 2 ^ 40) :
    CallsH Tryz.prog 54 #[.pointer (some ⟨b, 0, none⟩), strVal d] H fun r H' => r = .tuple #[.int .i64 d.length, .nilIface] ∧ ∃ k', BufAt b k' (l ++ d) H' ∧ Frm (b :: k.toList) H H' ∧ (k' = k ∨ ∃ g, k' = some g ∧ H.size ≤ g) := by
  apply s62
  have e : lenStrV (strVal d) = some (.int .i64 d.length) := by simp [strVal, bstr_size]
  simp only [c62, Qe, Q6, Qd, Q1, Nat.zero_add, e]
  refine write_core (R := fun r H' => r = .tuple #[.int .i64 d.length, .nilIface] ∧ ∃ k', BufAt b k' (l ++ d) H' ∧ Frm (b :: k.toList) H H' ∧ (k' = k ∨ ∃ g, k' = some g ∧ H.size ≤ g)) h (fun H' _ => strVal_src H' d) hlen fun k' H' h1 h2 h3 => ⟨rfl, k', h1, h2, h3⟩
theorem bufBytes_ok {b : Nat} {k : Option Nat} {l : List UInt8} {H : Heap} (h : BufAt b k l H) : CallsH Tryz.prog 26 #[.pointer (some ⟨b, 0, none⟩)] H fun x H' => IsBytes H' x l ∧ (∀ y, blk x = some y → k = some y) ∧ H' = H := by
  obtain ⟨sl, lr, hb, ho⟩ := h
  obtain ⟨base, c, rfl, hlc, hcm⟩ := ho.shape
  apply s34
  have s1 : sliceV 1 (.slice base l.length c) (some (.int .i64 0)) none none = some (.slice base l.length c) := by
    have := sliceV_lo (a := base) (n := l.length) (c := c) (size := 1) (lo := 0) (Nat.zero_le _) .i64
    rw [show ((0 : Nat) : Int) = 0 from rfl] at this
    rw [this]
    cases base with
    | none => simp
    | some a => simp [Addr.add]
  simp only [c34, Q0, Q1, Q2, Q3, Q4, Q5, Q6, Q7, Q8, Q9, Qa, Qb, Qc, Qd, Qe, Qf, Qg, Qh, Qi, Qj, cellH_of hb, s1]
  refine ⟨ho.bytes, ?_, trivial⟩
  intro y hy
  cases k with
  | none =>
    obtain ⟨h1, _⟩ := ho
    rw [h1] at hy
    simp [blk] at hy
  | some g =>
    obtain ⟨cells, h1, _⟩ := ho
    rw [h1] at hy
    simp [blk] at hy
    rw [hy]
end Go.Cps
namespace Go.Cps
open Go Go.Proofs
def OwnB (H : Heap) (k : Option Nat) (sl : Value) (l : List UInt8) : Prop := match k with
  | none => sl = .slice none 0 0 ∧ l = []
  | some g => ∃ cells : Array Value, sl = .slice (some ⟨g, 0, none⟩) l.length cells.size ∧ H[g]? = some (.cells cells 5 (0, 0)) ∧ cells.toList.take l.length = l.map byteV ∧ l.length ≤ cells.size
theorem OwnB.bytes {H : Heap} {k : Option Nat} {sl : Value} {l : List UInt8} (h : OwnB H k sl l) : IsBytes H sl l := by
  cases k with
  | none => exact .inr ⟨none, h⟩
  | some g =>
    obtain ⟨cells, rfl, hg, ht, hle⟩ := h
    refine .inl ⟨g, 0, _, rfl, hle, fun j hj => ?_⟩
    rw [cellH_of hg, Nat.zero_add]
    have : (cells.toList.take l.length)[j]? = (l.map byteV)[j]? := by rw [ht]
    rw [List.getElem?_take, if_pos hj, List.getElem?_map] at this
    simpa using this
theorem OwnB.frm {H H' : Heap} {k : Option Nat} {sl : Value} {l : List UInt8} {X : List Nat} (h : OwnB H k sl l) (f : Frm X H H') (hk : ∀ g, k = some g → g ∉ X) : OwnB H' k sl l := by
  cases k with
  | none => exact h
  | some g =>
    obtain ⟨cells, h1, hg, h2⟩ := h
    exact ⟨cells, h1, f.get hg (hk g rfl), h2⟩
theorem OwnB.blk {H : Heap} {k : Option Nat} {sl : Value} {l : List UInt8} (h : OwnB H k sl l) : Go.Cps.blk sl = k := by
  cases k with
  | none => rw [h.1]; rfl
  | some g => obtain ⟨cells, rfl, _⟩ := h; rfl
theorem append_own {k : Option Nat} {sl x : Value} {l d : List UInt8} {H : Heap} {K : Value → Heap → Prop} (h : OwnB H k sl l) (hx : IsBytes H x d) (hl : l.length + d.length < 2 ^ 40)
    (hK : ∀ k' sl' H', OwnB H' k' sl' (l ++ d) → Frm k.toList H H' → (k' = k ∨ ∃ g, k' = some g ∧ H.size ≤ g) → K sl' H') : Append 5 1 1 #[.int .u8 0] sl x H K := by
  obtain ⟨h1, h2⟩ := hx.elems (m := d.length) (Nat.le_refl _)
  rw [List.take_length] at h1
  cases k with
  | none =>
    obtain ⟨rfl, rfl⟩ := h
    refine append_empty hx (by omega) (fun hd => ?_) (fun c H' hc hr f z hcell => ?_)
    · refine hK none _ H ⟨rfl, by rw [hd]; rfl⟩ (Frm.refl _ _) (.inl rfl)
    · obtain ⟨zz, hcell, hz⟩ := hcell
      refine hK (some H.size) _ H' ⟨_, ?_, hcell, ?_, ?_⟩ f (.inr ⟨_, rfl, Nat.le_refl _⟩)
      · simp; omega
      · simp
      · simp
  | some g =>
    obtain ⟨cells, rfl, hg, ht, hle⟩ := h
    refine ⟨_, _, _, d.length, _, rfl, h2, h1, ?_⟩
    by_cases hroom : l.length + d.length ≤ cells.size
    · left
      refine ⟨hroom, ?_⟩
      have hst := stores_upd (d.map byteV) H g l.length 0 cells 5 hg (by simpa using hroom) (fun v hv => by
        obtain ⟨b, _, rfl⟩ := List.mem_map.1 hv; rfl)
      simp only [storeRow, Nat.mul_one, Q1, Nat.zero_add, hst, Q6, Nat.add_zero]
      refine hK (some g) _ _ ⟨putAt cells l.length (d.map byteV), ?_, upd_same (lt_of_some hg), putAt_take ht hroom, ?_⟩ (Frm.upd _ (by simp)) (.inl rfl)
      · simp
      · simpa using hroom
    · right
      have hlt : cells.size < l.length + d.length := by omega
      have hcap := nextslicecap_le hlt
      refine ⟨hlt, by omega, by omega, l.map byteV, ?_, fun c hc => ?_⟩
      · simp only [elemsV, Nat.mul_one]
        refine (cellsH_getElem _ _ _).2 ⟨by simp, fun j hj => ?_⟩
        rw [cellH_of hg, Nat.zero_add, Nat.zero_add]
        have : (cells.toList.take l.length)[j]? = (l.map byteV)[j]? := by rw [ht]
        rw [List.getElem?_take, if_pos hj] at this
        simpa using this
      · refine hK (some H.size) _ _ ⟨_, ?_, push_same _ _, ?_, ?_⟩ (Frm.push _ _ _) (.inr ⟨_, rfl, Nat.le_refl _⟩)
        · simp [zeros, Builtin.zeroCells]; omega
        · simp only [Array.toList_append, List.append_assoc, List.map_append, List.length_append]
          rw [← List.append_assoc, List.take_left' (by simp)]
        · simp
end Go.Cps
namespace Go.Cps
open Go Go.Proofs
theorem meth189 : methodRes Tryz.prog 128 "Read" = some 236 := by kernel_rfl
theorem meth116 : methodRes Tryz.prog 41 "Read" = some 218 := by kernel_rfl
theorem body225 : hasBody Tryz.prog 236 = true := by kernel_rfl
theorem body213 : hasBody Tryz.prog 218 = true := by kernel_rfl
theorem putAt_bytes {H : Heap} {g c : Nat} {cs : Array Value} {t : TypeId} {l : List UInt8} (h : H[g]? = some (.cells (putAt cs 0 (l.map byteV)) t (0, 0))) (hl : l.length ≤ cs.size) (hc : l.length ≤ c) : IsBytes H (.slice (some ⟨g, 0, none⟩) l.length c) l := by
  refine .inl ⟨g, 0, c, rfl, hc, fun j hj => ?_⟩
  rw [cellH_of h, putAt_get _ _ _ _ (by simpa using hl), if_pos ⟨Nat.zero_le _, by simpa using hj⟩]
  simp
def REnv.raw (e : REnv) : Prop := e.P.r = .iface 128 (.agg #[.pointer (some ⟨e.pt, 0, none⟩)])
theorem pRead_ok {e : REnv} {b : List UInt8} {n total : Nat} {ev : Sk} {re : Bool} {s : St} {H : Heap} {db dn dc : Nat} {cs : Array Value} {t : TypeId}
    (hr : e.raw) (h : RB e b n total ev re s H) (hd : H[db]? = some (.cells cs t (0, 0))) (hdn : dn ≤ cs.size) (hdc : dn ≤ dc) (h0 : 0 < dn) (hd38 : dn < 2 ^ 38)
    (hdb : db ∉ e.pt :: e.mr :: e.tb :: e.S.ids) (hdB : e.B ≤ db) (hdv : blk e.S.v ≠ some db) :
    CallsH Tryz.prog 218 #[.pointer (some ⟨e.pt, 0, none⟩), .slice (some ⟨db, 0, none⟩) dn dc] H fun x H' => ∃ (k n' total' : Nat) (ev' : Sk) (re' : Bool) (s' : St), x = .tuple #[.int .i64 k, skV e.E e.U (if n' = 0 then ev' else .go)] ∧ k ≤ dn ∧ k ≤ b.length ∧ RB e (b.drop k) n' total' ev' re' s' H' ∧
      H'[db]? = some (.cells (putAt cs 0 ((b.take k).map byteV)) t (0, 0)) ∧ Frm (db :: e.pt :: e.S.ids) H H' ∧ (n' = 0 → ev' = .go → 0 < k) ∧ (k = 0 → n' = 0) := by
  apply s213
  simp only [c213, Q0, Q1, Q2, Q3, Q4, Q5, Q6, Q7, Q8, Q9, Qa, Qb, Qc, Qd, Qe, Qf, Qg, Qh, Qi, Qj, cellH_of h.hp, ptCells]
  rw [hr]
  refine invoke_of 236 meth189 body225 ?_
  refine (partRead_ok rfl h hd hdn hdc h0 hd38 hdb hdB hdv).mono ?_
  rintro x H1 ⟨k, n', total', ev', re', s', rfl, h1⟩
  simp only [Q0, Q1, Q2, Q3, Q4, Q5, Q6, Q7, Q8, Q9, Qa, Qb, Qc, Qd, Qe, Qf, Qg, Qh, Qi, Qj]
  exact ⟨k, n', total', ev', re', s', rfl, h1⟩
theorem all_ok {e : REnv} {b : List UInt8} {n total : Nat} {ev : Sk} {re : Bool} {s : St} {H : Heap} (hr : e.raw) (h : RB e b n total ev re s H) (hB : e.B ≤ H.size) (hH : ∀ x ∈ e.pt :: e.mr :: e.tb :: e.S.ids, x < H.size) (hv : ∀ x, blk e.S.v = some x → x < H.size) :
    CallsH Tryz.prog 18 #[.iface 41 (.pointer (some ⟨e.pt, 0, none⟩))] H fun x H' => ∃ k out d b' total' ev' re' s', x = .tuple #[out, .bool (match ev' with | .eof => true | _ => false)] ∧ OwnB H' k out d ∧ d ++ b' = b ∧ RB e b' 0 total' ev' re' s' H' ∧ ev' ≠ .go ∧
      Frm (e.pt :: e.S.ids) H H' ∧ (∀ g, k = some g → H.size ≤ g) := by
  have htot := h.tot
  apply s68
  unfold c68
  refine makeBytes_of (n := 500) (by omega) ?_
  have hd0 := push_same H (.cells ((zbuf 500).map byteV).toArray 5 (0, 0))
  have h1 := h.push (.cells ((zbuf 500).map byteV).toArray 5 (0, 0))
  have f0 : Frm (e.pt :: e.S.ids) H (H.push (.cells ((zbuf 500).map byteV).toArray 5 (0, 0))) := Frm.push _ _ _
  have z0 : (H.push (.cells ((zbuf 500).map byteV).toArray 5 (0, 0))).size = H.size + 1 := by simp
  have hcs0 : ((zbuf 500).map byteV).toArray.size = 500 := by simp [zbuf_length]
  generalize ((zbuf 500).map byteV).toArray = cs0 at *
  generalize H.push (.cells cs0 5 (0, 0)) = H0 at *
  have hdb : H.size ∉ e.pt :: e.mr :: e.tb :: e.S.ids := fun hm => by have := hH _ hm; omega
  refine ⟨fun μ vs H1 => ∃ k out d b' n total ev re s cs, vs = [out] ∧ μ = b'.length ∧ OwnB H1 k out d ∧ d ++ b' = b ∧ RB e b' n total ev re s H1 ∧ H1[H.size]? = some (.cells cs 5 (0, 0)) ∧ cs.size = 500 ∧ Frm (e.pt :: e.S.ids) H H1 ∧ (∀ g, k = some g → H.size < g),
    ⟨_, none, _, [], b, n, total, ev, re, s, cs0, rfl, rfl, ⟨rfl, rfl⟩, rfl, h1, hd0, hcs0, f0, by simp⟩, ?_⟩
  clear h1 hd0 hcs0 f0
  rintro μ vs H1 ⟨k, out, d, b', n, total, ev, re, s, cs, rfl, rfl, hout, hdb', h1, hd1, hcs, f1, hk⟩
  simp only [Q0, Q1, Q2, Q3, Q4, Q5, Q6, Q7, Q8, Q9, Qa, Qb, Qc, Qd, Qe, Qf, Qg, Qh, Qi, Qj]
  refine invoke_of 218 meth116 body213 ?_
  refine (pRead_ok (dn := 500) (dc := 500) hr h1 hd1 (by omega) (Nat.le_refl _) (by omega) (by omega) hdb hB (fun hh => by have := hv _ hh; omega)).mono ?_
  rintro x H2 ⟨j, n', total', ev', re', s', rfl, hj1, hj2, h2, hd2, f2, hz1, hz2⟩
  have hjl : (b'.take j).length = j := by simp; omega
  have hsub := putAt_bytes (c := 500) hd2 (by rw [hjl]; omega) (by rw [hjl]; omega)
  rw [hjl] at hsub
  simp only [Q0, Q1, Q2, Q3, Q4, Q5, Q6, Q7, Q8, Q9, Qa, Qb, Qc, Qd, Qe, Qf, Qg, Qh, Qi, Qj]
  rw [sliceV_hi (by omega), Q6]
  have hlen : d.length + b'.length = b.length := by rw [← hdb', List.length_append]
  have hout2 : OwnB H2 k out d := hout.frm f2 (fun g hg => by
    have h5 := hk g hg
    intro hm
    rcases List.mem_cons.1 hm with rfl | hm
    · omega
    · have : g < H.size := hH g (by
        rcases List.mem_cons.1 hm with rfl | hm
        · simp
        · simp [hm])
      omega)
  have f12 : Frm (e.pt :: e.S.ids) H H2 := ⟨Nat.le_trans f1.size f2.size, fun i hi hn => by
    rw [f2.same i (Nat.lt_of_lt_of_le hi f1.size) (fun hm => ?_), f1.same i hi hn]
    rcases List.mem_cons.1 hm with rfl | hm
    · omega
    · exact hn hm⟩
  refine append_own hout2 hsub (by rw [hjl]; omega) fun k' sl' H3 hout3 f3 hk3 => ?_
  have hkk : ∀ g, k' = some g → H.size < g := by
    intro g hg
    rcases hk3 with h | ⟨g', h, hge⟩
    · exact hk g (by rw [← h, hg])
    · rw [hg] at h; cases h
      have := f12.size
      have := lt_of_some hd2
      omega
  have hkn : ∀ g ∈ k.toList, H.size < g := by
    intro g hg
    exact hk g (by simpa using hg)
  have h3 : RB e (b'.drop j) n' total' ev' re' s' H3 := h2.frm f3 (fun g hg => by
    have h5 := hkn g hg
    refine ⟨by omega, fun hm => by have := hH g hm; omega, fun hm => by have := hv g hm; omega⟩)
  have hd3 := f3.get hd2 (fun hm => by have := hkn _ hm; omega)
  have f13 : Frm (e.pt :: e.S.ids) H H3 := ⟨Nat.le_trans f12.size f3.size, fun i hi hn => by
    rw [f3.same i (Nat.lt_of_lt_of_le hi f12.size) (fun hm => by have := hkn _ hm; omega), f12.same i hi hn]⟩
  have hcat : (d ++ b'.take j) ++ b'.drop j = b := by rw [List.append_assoc, List.take_append_drop, hdb']
  have hneq : nilV2 .neq .nilIface (skV e.E e.U (if n' = 0 then ev' else .go)) = some (.bool (!(if n' = 0 then ev' else .go).isGo)) := skV_neq e _
  simp only [hneq, Q6]
  refine Br_intro (fun hh => ?_) (fun hh => ?_)
  · have hn0 : n' = 0 := by
      rcases Nat.eq_zero_or_pos n' with h | h
      · exact h
      · rw [if_neg (by omega)] at hh; simp [Sk.isGo] at hh
    subst hn0
    rw [if_pos rfl] at hh ⊢
    simp only [Qf, h3.er.eof.load, Q6]
    have hne : ev' ≠ .go := by rintro rfl; simp [Sk.isGo] at hh
    cases ev' with
    | go => contradiction
    | eof =>
      rw [show skV e.E e.U .eof = .iface 109 (.pointer (some e.ea)) from rfl, eq_same]
      exact ⟨k', _, _, _, _, .eof, _, _, rfl, hout3, hcat, h3, by simp, f13, fun g hg => by have := hkk g hg; omega⟩
    | re =>
      obtain ⟨_, cs1, t1, g1⟩ := h3.er.be
      obtain ⟨_, cs2, t2, g2⟩ := h3.er.bu
      rw [show skV e.E e.U .re = .iface 109 (.pointer (some e.ua)) from rfl, eq_other (a := e.ua) (b := e.ea) (H := H3) h3.er.ne.symm g2 g1]
      exact ⟨k', _, _, _, _, .re, _, _, rfl, hout3, hcat, h3, by simp, f13, fun g hg => by have := hkk g hg; omega⟩
  · have hgo : (if n' = 0 then ev' else Sk.go) = .go := (Sk.isGo_iff _).1 (by simpa using hh)
    have hjp : 0 < j := by
      rcases Nat.eq_zero_or_pos j with h0 | h0
      · have := hz2 h0
        rw [if_pos this] at hgo
        exact hz1 this hgo
      · exact h0
    exact ⟨_, by rw [List.length_drop]; omega, k', sl', _, _, n', total', ev', re', s', _, rfl, rfl, hout3, hcat, h3, hd3, by simpa using hcs, f13, hkk⟩
end Go.Cps
namespace Go.Cps
open Go Go.Proofs
theorem ExecV.eq' {P : Program} {s : Sem Value} {H H' : Heap} {K : Value → Heap → Prop} {v : Value} (h : ∀ w, w.heap = H → ∃ w', s.run P w = .ok v w' ∧ Same w w' ∧ w'.heap = H') : ExecV P s H K = K v H' := by
  apply propext
  unfold ExecV
  constructor
  · intro hh
    have h1 := hh (at_ H) rfl
    obtain ⟨w', h2, _, h3⟩ := h (at_ H) rfl
    generalize s.run P (at_ H) = q at *
    subst h2
    rw [← h3]
    exact h1.2
  · intro hk w hw
    obtain ⟨w', h2, hs, h3⟩ := h w hw
    generalize s.run P w = q at *
    subst h2
    exact ⟨hs, by rw [h3]; exact hk⟩
theorem und9 : Tryz.prog.underlying 9 = some .string := by kernel_rfl
theorem range_str {s : ByteArray} {H : Heap} {K : Value → Heap → Prop} : ExecV Tryz.prog (Instr.range 9 (.string s)) H K = K (.pointer (some ⟨H.size, 0, none⟩)) (H.push (.stringIter s 0)) := by
  apply ExecV.eq'
  intro w hw
  subst hw
  exact ⟨_, run_range_string w 9 s und9, ⟨rfl, rfl, rfl⟩, rfl⟩
theorem next_str {s : ByteArray} {pos r : Nat} {H : Heap} {K : Value → Heap → Prop} (hr : H[r]? = some (.stringIter s pos)) (h : pos < s.size) (ha : (s[pos]'h).toNat < 128) :
    ExecV Tryz.prog (Instr.next (.pointer (some ⟨r, 0, none⟩)) true 0) H K = K (.tuple #[.bool true, .int .i64 pos, .int .i32 (s[pos]'h).toNat]) (upd H r (.stringIter s (pos + 1))) := by
  apply ExecV.eq'
  intro w hw
  subst hw
  refine ⟨{ w with heap := upd w.heap r (.stringIter s (pos + 1)) }, ?_, ⟨rfl, rfl, rfl⟩, rfl⟩
  simp only [Instr.next, getObj, setObj, Sem.run_bind, Sem.run, hr, Result.andThen, h, if_true, decode_ascii s pos h ha]
  simp [goInt, Sem.run, hr, upd, lt_of_some hr]
theorem next_end {s : ByteArray} {pos r : Nat} {H : Heap} {K : Value → Heap → Prop} (hr : H[r]? = some (.stringIter s pos)) (h : ¬ pos < s.size) :
    ExecV Tryz.prog (Instr.next (.pointer (some ⟨r, 0, none⟩)) true 0) H K = K (.tuple #[.bool false]) H := by
  apply ExecV.eq
  intro w hw
  subst hw
  simp [Instr.next, getObj, Sem.run, hr, h]
def alnum (n : Int) : Bool := (65 ≤ n && n ≤ 90) || (97 ≤ n && n ≤ 122) || (48 ≤ n && n ≤ 57)
def punct (n : Int) : Bool := n == 39 || n == 40 || n == 41 || n == 43 || n == 95 || n == 44 || n == 45 || n == 46 || n == 47 || n == 58 || n == 61 || n == 63
def bchar (b : UInt8) : Bool := alnum b.toNat || punct b.toNat || b == 32
structure BdOk (l : List UInt8) : Prop where
  chars : ∀ b ∈ l, bchar b = true
  pos : 0 < l.length
  len : l.length ≤ 70
  last : l[l.length - 1]? ≠ some 32
theorem bchar_ascii {b : UInt8} (h : bchar b = true) : b.toNat < 128 := by
  simp only [bchar, alnum, punct, Bool.or_eq_true, Bool.and_eq_true, decide_eq_true_eq, beq_iff_eq] at h
  rcases h with (h | h) | h
  · omega
  · omega
  · subst h; decide
def WrAt (wr : Nat) (w : Value) (bd : List UInt8) (last : Value) (H : Heap) : Prop := H[wr]? = some (.cells #[w, strVal bd, last] 89 (0, 0))
theorem newWriter_ok {w : Value} {H : Heap} (hw : isOne w = true) : CallsH Tryz.prog 21 #[w] H fun x H' => x = .pointer (some ⟨H.size, 0, none⟩) ∧ H' = H.push (.cells #[w, strVal [], .pointer none] 89 (0, 0)) := by
  apply s30
  have e : fillV #[(0, 1), (1, 1), (2, 1)] #[.nilIface, (.string ⟨#[]⟩), (.pointer none)] [(0, w), (1, (.string ⟨#[]⟩))] = some #[w, .string ⟨#[]⟩, .pointer none] := by
    rw [fillV_cons hw rfl (by simp), fillV_cons rfl rfl (by simp), fillV_nil]; rfl
  simp only [c30, e, Option.map_some, Q6, New, Value.cells]
  exact ⟨trivial, rfl⟩
theorem setBoundary_ok {wr : Nat} {w : Value} {bd0 bd : List UInt8} {H : Heap} (h : WrAt wr w bd0 (.pointer none) H) (hb : BdOk bd) :
    CallsH Tryz.prog 22 #[.pointer (some ⟨wr, 0, none⟩), strVal bd] H fun x H' => x = .nilIface ∧ WrAt wr w bd (.pointer none) H' ∧ Frm [wr] H H' := by
  have hpos := hb.pos
  have hlen := hb.len
  have hsz : (⟨bd.toArray⟩ : ByteArray).size = bd.length := bstr_size bd
  apply s31
  have hl : lenStrV (strVal bd) = some (.int .i64 bd.length) := by simp [strVal, bstr_size]
  simp only [c31, Q0, Q1, Q2, Q3, Q4, Q5, Q6, Q7, Q8, Q9, Qa, Qb, Qc, Qd, Qe, Qf, Qg, Qh, Qi, Qj, Qk, Ql, Qm, Qn, Qo, Qp, Qq, Qr, Qs, cellH_of h, nilV2_neq_ptr, Option.isNone_none, Bool.not_true, hl]
  refine Join_direct ?_
  have d1 : decide ((bd.length : Int) < 1) = false := by simp; omega
  have d2 : decide ((bd.length : Int) > 70) = false := by simp; omega
  have e1 : IntKind.i64.wrap ((bd.length : Int) - 1) = (bd.length : Int) - 1 := wrap_i64 (by omega) (by omega)
  simp only [Q0, Q1, Q2, Q3, Q4, Q5, Q6, Q7, Q8, Q9, Qa, Qb, Qc, Qd, Qe, Qf, Qg, Qh, Qi, Qj, Qk, Ql, Qm, Qn, Qo, Qp, Qq, Qr, Qs, d1, d2, Bool.false_eq_true, if_false, e1]
  rw [strVal, range_str]
  have h0 : (H.push (.stringIter ⟨bd.toArray⟩ 0))[wr]? = some (.cells #[w, strVal bd0, .pointer none] 89 (0, 0)) := push_old h
  refine ⟨fun n vs H' => ∃ pos, vs = [] ∧ n = bd.length - pos ∧ pos ≤ bd.length ∧ H'[H.size]? = some (.stringIter ⟨bd.toArray⟩ pos) ∧ H'[wr]? = some (.cells #[w, strVal bd0, .pointer none] 89 (0, 0)) ∧ Frm [] H H',
    ⟨_, 0, rfl, rfl, Nat.zero_le _, push_same _ _, h0, Frm.push _ _ _⟩, ?_⟩
  rintro n vs H1 ⟨pos, rfl, rfl, hp, hit, hw1, f1⟩
  by_cases hlt : pos < bd.length
  · have hbp : (⟨bd.toArray⟩ : ByteArray)[pos]'(by rw [hsz]; exact hlt) = bd[pos] := rfl
    have hch := hb.chars _ (List.getElem_mem hlt)
    rw [next_str hit (by rw [hsz]; exact hlt) (by rw [hbp]; exact bchar_ascii hch), hbp]
    generalize hH2 : upd H1 H.size (.stringIter ⟨bd.toArray⟩ (pos + 1)) = H2
    have f2 : Frm [H.size] H1 H2 := by rw [← hH2]; exact Frm.upd _ (by simp)
    have hit2 : H2[H.size]? = some (.stringIter ⟨bd.toArray⟩ (pos + 1)) := by rw [← hH2]; exact upd_same (lt_of_some hit)
    have hne : wr ≠ H.size := by have := lt_of_some h; omega
    have hw2 := f2.get hw1 (by simpa using hne)
    have f12 : Frm [] H H2 := ⟨Nat.le_trans f1.size f2.size, fun k hk hn => by rw [f2.same k (Nat.lt_of_lt_of_le hk f1.size) (by simp; omega), f1.same k hk hn]⟩
    have hround : ∃ m, m < bd.length - pos ∧ ∃ pos', True ∧ m = bd.length - pos' ∧ pos' ≤ bd.length ∧ H2[H.size]? = some (.stringIter ⟨bd.toArray⟩ pos') ∧ H2[wr]? = some (.cells #[w, strVal bd0, .pointer none] 89 (0, 0)) ∧ Frm [] H H2 :=
      ⟨_, by omega, pos + 1, trivial, rfl, hlt, hit2, hw2, f12⟩
    generalize hcv : ((bd[pos].toNat : Nat) : Int) = c
    simp only [Q0, Q1, Q2, Q3, Q4, Q5, Q6, Q7, Q8, Q9, Qa, Qb, Qc, Qd, Qe, Qf, Qg, Qh, Qi, Qj, Qk, Ql, Qm, Qn, Qo, Qp, Qq, Qr, Qs]
    refine ⟨fun vs H' => vs = [.bool (alnum c)] ∧ H' = H2, ?_, ?_⟩
    · refine Br_intro (fun h1 => ?_) (fun h1 => ?_) <;> simp only [Q0, Q1, Q2, Q3, Q4, Q5, Q6, Q7, Q8, Q9, Qa, Qb, Qc, Qd, Qe, Qf, Qg, Qh, Qi, Qj, Bool.false_eq_true, if_false, if_true] <;> repeat' (first | refine Br_intro (fun h2 => ?_) (fun h2 => ?_) | simp only [Q0, Q1, Q2, Q3, Q4, Q5, Q6, Q7, Q8, Q9, Qa, Qb, Qc, Qd, Qe, Qf, Qg, Qh, Qi, Qj, Qk, Ql, Qm, Qn, Qo, Qp, Qq, Qr, Qs, Bool.false_eq_true, if_false, if_true])
      all_goals (simp only [decide_eq_true_eq, decide_eq_false_iff_not] at *; try simp only [List.cons.injEq, Value.bool.injEq, and_true]; rw [Bool.eq_iff_iff]; simp only [alnum, Bool.or_eq_true, Bool.and_eq_true, decide_eq_true_eq, true_iff, false_iff, eq_self, Bool.false_eq_true]; omega)
    · rintro _ H2 ⟨rfl, rfl⟩
      simp only [Q0, Q1, Q2, Q3, Q4, Q5, Q6, Q7, Q8, Q9, Qa, Qb, Qc, Qd, Qe, Qf, Qg, Qh, Qi, Qj]
      refine Br_intro (fun h1 => hround) (fun h1 => ?_)
      refine ⟨fun _ _ => False, ?_, fun _ _ h => h.elim⟩
      refine ⟨fun vs H' => vs = [.bool (punct c)] ∧ H' = H2, ?_, ?_⟩
      · simp only [Q0, Q1, Q2, Q3, Q4, Q5, Q6, Q7, Q8, Q9, Qa, Qb, Qc, Qd, Qe, Qf, Qg, Qh, Qi, Qj, Qk, Ql, Qm, Qn, Qo, Qp, Qq, Qr, Qs]
        repeat' (first | refine Br_intro (fun h2 => ?_) (fun h2 => ?_) | simp only [Q0, Q1, Q2, Q3, Q4, Q5, Q6, Q7, Q8, Q9, Qa, Qb, Qc, Qd, Qe, Qf, Qg, Qh, Qi, Qj, Qk, Ql, Qm, Qn, Qo, Qp, Qq, Qr, Qs])
        all_goals (try simp only [beq_iff_eq, beq_eq_false_iff_ne] at *; try simp only [List.cons.injEq, Value.bool.injEq, and_true]; rw [Bool.eq_iff_iff]; simp only [punct, Bool.or_eq_true, beq_iff_eq]; omega)
      · rintro _ H2 ⟨rfl, rfl⟩
        simp only [Q0, Q1, Q2, Q3, Q4, Q5, Q6, Q7, Q8, Q9, Qa, Qb, Qc, Qd, Qe, Qf, Qg, Qh, Qi, Qj]
        refine Br_intro (fun h2 => hround) (fun h2 => ?_)
        have hc32 : c = 32 := by
          simp only [bchar, Bool.or_eq_true, beq_iff_eq, hcv, h1, h2, Bool.false_eq_true, false_or] at hch
          rw [← hcv, hch]; rfl
        have hne2 : pos ≠ bd.length - 1 := by
          intro e
          apply hb.last
          rw [← e, List.getElem?_eq_getElem hlt]
          congr 1
          apply UInt8.toNat_inj.1
          have : (32 : UInt8).toNat = 32 := rfl
          omega
        have d3 : ((pos : Int) != (bd.length : Int) - 1) = true := by simp; omega
        simp only [Qk, Ql, Qm, Qn, Qo, Qp, Qq, Qr, Qs, Q0, Q1, Q2, Q3, Q4, Q5, Q6, Q7, Q8, Q9, Qa, Qb, Qc, Qd, Qe, Qf, Qg, Qh, Qi, Qj, hc32, beq_self_eq_true, d3]
        exact hround
  · rw [next_end hit (by rw [hsz]; exact hlt)]
    simp only [Q0, Q1, Q2, Q3, Q4, Q5, Q6, Q7, Q8, Q9, Qa, Qb, Qc, Qd, Qe, Qf, Qg, Qh, Qi, Qj]
    refine Store_of hw1 (by simp) rfl fun H2 hb2 f2 z2 => ?_
    simp only [Qt, Qu, Qv] at hb2
    exact ⟨trivial, hb2, (f1.mono (by simp)).trans f2⟩
end Go.Cps
