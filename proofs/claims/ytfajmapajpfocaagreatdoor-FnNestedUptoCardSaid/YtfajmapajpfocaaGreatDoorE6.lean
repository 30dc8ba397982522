/-
  A part of the proof (its texts: L3, L4, L5, L6): each text says below what it proves.
  Conditions: each contract's own.
-/
import Derived.Test.YtfajmapajpfocaaGreatDoorE5
set_option linter.all false
/-
  Contracts: skipLWSPChar, isFinalBoundary, isBoundaryDelimiterLine.
  Conditions: each contract's own.
-/
namespace Go.Cps
open Go Go.Proofs

def lws (b : UInt8) : Bool := b == 32 || b == 9
theorem byte_beq (b c : UInt8) : (((b.toNat : Nat) : Int) == ((c.toNat : Nat) : Int)) = (b == c) := by
  rw [Bool.eq_iff_iff, beq_iff_eq, beq_iff_eq]
  constructor
  · intro e; exact UInt8.toNat_inj.1 (by omega)
  · rintro rfl; rfl

theorem skip_ok {v : Value} {l : List UInt8} {H : Heap} (hv : IsBytes H v l) : CallsH Tryz.prog 113 #[v] H fun x H' => H' = H ∧ IsBytes H x (l.dropWhile lws) := by
  apply s113
  unfold c113
  refine ⟨fun n vs H' => ∃ u m, vs = [u] ∧ n = m.length ∧ H' = H ∧ IsBytes H u m ∧ m.dropWhile lws = l.dropWhile lws, ⟨_, v, l, rfl, rfl, rfl, hv, rfl⟩, ?_⟩
  rintro n vs H' ⟨u, m, rfl, rfl, rfl, hu, hm⟩
  simp only [nth_zero, hu.len, Get_some, arithV_gtr]
  cases m with
  | nil =>
    refine ⟨fun vs H => vs = [.bool false] ∧ H = H', by simp, ?_⟩
    rintro _ _ ⟨rfl, rfl⟩
    simp only [nth_zero, Br_false, true_and]
    rw [← hm]
    exact hu
  | cons b r =>
    rcases hu with ⟨bb, o, c, rfl, hc, hcell⟩ | ⟨_, h⟩
    · have h0 := hcell 0 (by simp)
      simp only [Nat.add_zero, List.getElem?_cons_zero, Option.map_some] at h0
      have he : elemAddrV 1 (.slice (some ⟨bb, o, none⟩) (b :: r).length c) (.int .i64 0) = some (.pointer (some ⟨bb, o, none⟩)) := by
        rw [elemAddr_of (by omega) (by simp)]; simp
      have hlt : decide (((b :: r).length : Int) > 0) = true := by simp
      refine ⟨fun vs H => vs = [.bool (lws b)] ∧ H = H', ?_, ?_⟩
      · simp only [hlt, Br_true, he, Get_some, load1V_ptr, h0, byteV, arithV_eql, pickV_bool, if_true, Bool.false_eq_true, if_false]
        have e32 : (((b.toNat : Nat) : Int) == 32) = (b == 32) := byte_beq b 32
        have e9 : (((b.toNat : Nat) : Int) == 9) = (b == 9) := byte_beq b 9
        rw [e32, e9]
        refine Br_intro (fun h => ?_) (fun h => ?_)
        · simp [lws, h]
        · simp [lws, h]
      · rintro _ _ ⟨rfl, rfl⟩
        simp only [nth_zero]
        refine Br_intro (fun h => ?_) (fun h => ?_)
        · rw [show (Value.int .i64 1) = .int .i64 ((1 : Nat) : Int) from rfl, sliceV_lo (lo := 1) (by simp), Get_some]
          refine ⟨r.length, by simp, _, r, rfl, rfl, trivial, ?_, ?_⟩
          · have := IsBytes.sub (lo := 1) (hi := (b :: r).length) (.inl ⟨bb, o, c, rfl, hc, hcell⟩) (by simp) (Nat.le_refl _)
            simpa [apply_ite] using this
          · rw [← hm, List.dropWhile_cons, if_pos h]
        · refine ⟨trivial, ?_⟩
          rw [← hm, List.dropWhile_cons, if_neg (by simp [h])]
          exact .inl ⟨bb, o, c, rfl, hc, hcell⟩
    · simp at h

theorem IsBytes.from' {H : Heap} {v : Value} {l : List UInt8} (hl : IsBytes H v l) {lo : Nat} (hle : lo ≤ l.length) (k : IntKind) : ∃ u, sliceV 1 v (some (.int k lo)) none none = some u ∧ IsBytes H u (l.drop lo) := by
  rcases hl with ⟨bb, o, c, rfl, hc, hcell⟩ | ⟨a', rfl, rfl⟩
  · refine ⟨_, sliceV_lo hle _, ?_⟩
    have := IsBytes.sub (lo := lo) (hi := l.length) (.inl ⟨bb, o, c, rfl, hc, hcell⟩) hle (Nat.le_refl _)
    simpa [apply_ite] using this
  · have : lo = 0 := by simpa using hle
    subst this
    exact ⟨.slice a' 0 0, by cases a' <;> rfl, .inr ⟨a', rfl, rfl⟩⟩

/- a multipart Reader's block -/
structure MRf where
  br : Value
  tmp : Value
  cur : Value
  parts : Int
  nl : Value
  nld : Value
  dd : Value
  dash : Value
def MRf.cells (m : MRf) : Array Value := #[m.br, m.tmp, m.cur, .int .i64 m.parts, m.nl, m.nld, m.dd, m.dash]

def finalLine (line dd nl : List UInt8) : Bool :=
  dd.isPrefixOf line && (((line.drop dd.length).dropWhile lws).isEmpty || (line.drop dd.length).dropWhile lws == nl)

theorem isFinal_ok {mr : Nat} {m : MRf} {T : TypeId} {line : Value} {l dd nl : List UInt8} {H : Heap} (hm : H[mr]? = some (.cells m.cells T (0, 0))) (hl : IsBytes H line l) (hdd : IsBytes H m.dd dd) (hnl : IsBytes H m.nl nl) :
    CallsH Tryz.prog 94 #[.pointer (some ⟨mr, 0, none⟩), line] H fun x H' => x = .bool (finalLine l dd nl) ∧ H' = H := by
  apply s94
  have c6 : cellH H ⟨mr, 6, none⟩ = some m.dd := by rw [cellH_of hm]; rfl
  have c4 : cellH H ⟨mr, 4, none⟩ = some m.nl := by rw [cellH_of hm]; rfl
  simp only [c94, Fld_ptr, add_mk, Nat.zero_add, c6, Get_some]
  refine (hasPrefix_ok hl hdd).mono ?_
  rintro x H' ⟨rfl, rfl⟩
  simp only [unV_not, Get_some]
  refine Br_intro (fun h => ?_) (fun h => ?_)
  · simp only [Bool.not_eq_true'] at h
    simp [finalLine, h]
  · simp only [Bool.not_eq_false'] at h
    have hle : dd.length ≤ l.length := (List.isPrefixOf_iff_prefix.1 h).length_le
    simp only [c6, hdd.len, Get_some]
    have hsub := hl.from' hle .i64
    obtain ⟨u, hu, hub⟩ := hsub
    rw [hu, Get_some]
    refine (skip_ok hub).mono ?_
    rintro y H'' ⟨rfl, hy⟩
    simp only [hy.len, Get_some, arithV_eql]
    refine Join_direct ?_
    refine Br_intro (fun h2 => ?_) (fun h2 => ?_)
    · simp only [pickV_bool, if_true, Get_some, nth_zero, and_true, Value.bool.injEq]
      have : (l.drop dd.length).dropWhile lws = [] := List.eq_nil_of_length_eq_zero (by simpa using h2)
      simp [finalLine, h, this]
    · simp only [c4, Get_some]
      refine (equal_ok hy hnl).mono ?_
      rintro z H3 ⟨rfl, rfl⟩
      simp only [pickV_bool, Bool.false_eq_true, if_false, Get_some, nth_zero, and_true, Value.bool.injEq]
      have : ((l.drop dd.length).dropWhile lws).isEmpty = false := by
        rw [List.isEmpty_eq_false_iff]
        intro e
        rw [e] at h2
        simp at h2
      simp [finalLine, h, this]

def delimLine (line dash nl : List UInt8) : Bool := dash.isPrefixOf line && ((line.drop dash.length).dropWhile lws == nl)

theorem isDelim_ok {mr : Nat} {m : MRf} {T : TypeId} {line : Value} {l dash nl : List UInt8} {H : Heap} (hm : H[mr]? = some (.cells m.cells T (0, 0))) (hl : IsBytes H line l) (hd : IsBytes H m.dash dash) (hnl : IsBytes H m.nl nl)
    (h10 : (l.drop dash.length).dropWhile lws ≠ [10]) :
    CallsH Tryz.prog 95 #[.pointer (some ⟨mr, 0, none⟩), line] H fun x H' => x = .bool (delimLine l dash nl) ∧ H' = H := by
  apply s95
  have c7 : cellH H ⟨mr, 7, none⟩ = some m.dash := by rw [cellH_of hm]; rfl
  have c4 : cellH H ⟨mr, 4, none⟩ = some m.nl := by rw [cellH_of hm]; rfl
  have c3 : cellH H ⟨mr, 3, none⟩ = some (.int .i64 m.parts) := by rw [cellH_of hm]; rfl
  simp only [c95, Fld_ptr, add_mk, Nat.zero_add, c7, Get_some]
  refine (hasPrefix_ok hl hd).mono ?_
  rintro x H' ⟨rfl, rfl⟩
  simp only [unV_not, Get_some]
  refine Br_intro (fun h => ?_) (fun h => ?_)
  · simp only [Bool.not_eq_true'] at h
    simp [delimLine, h]
  · simp only [Bool.not_eq_false'] at h
    have hle : dash.length ≤ l.length := (List.isPrefixOf_iff_prefix.1 h).length_le
    simp only [c7, hd.len, Get_some]
    obtain ⟨u, hu, hub⟩ := hl.from' hle .i64
    rw [hu, Get_some]
    refine (skip_ok hub).mono ?_
    rintro y H'' ⟨rfl, hy⟩
    refine ⟨fun _ H => H = H'', ?_, ?_⟩
    · refine ⟨fun vs H => vs = [.bool false] ∧ H = H'', ?_, ?_⟩
      · simp only [c3, Get_some, arithV_eql, hy.len, pickV_bool, if_true, Bool.false_eq_true, if_false, Br_false]
        refine Br_intro (fun h2 => ?_) (fun h2 => by simp)
        refine Br_intro (fun h3 => ?_) (fun h3 => by simp)
        have hlen : ((l.drop dash.length).dropWhile lws).length = 1 := by
          rw [beq_iff_eq] at h3; omega
        rcases hy with ⟨bb, o, c, rfl, hc, hcell⟩ | ⟨_, _, hnil⟩
        · have h0 := hcell 0 (by omega)
          obtain ⟨b, hb⟩ := List.length_eq_one_iff.1 hlen
          rw [hb] at h0 h10 ⊢
          simp only [Nat.add_zero, List.getElem?_cons_zero, Option.map_some] at h0
          have he : elemAddrV 1 (.slice (some ⟨bb, o, none⟩) 1 c) (.int .i64 0) = some (.pointer (some ⟨bb, o, none⟩)) := by
            rw [elemAddr_of (by omega) (by simp)]; simp
          have e10 : (((b.toNat : Nat) : Int) == 10) = (b == 10) := byte_beq b 10
          have hne : (b == 10) = false := by
            rw [beq_eq_false_iff_ne]
            rintro rfl
            exact h10 rfl
          simp [he, h0, byteV, e10, hne]
        · rw [hnil] at hlen
          simp at hlen
      · rintro _ _ ⟨rfl, rfl⟩
        simp
    · rintro _ _ rfl
      simp only [c4, Get_some]
      refine (equal_ok hy hnl).mono ?_
      rintro z H3 ⟨rfl, rfl⟩
      simp [delimLine, h]
end Go.Cps

/-
  Copying bytes; bytes.Reader.Read; the sticky reader's Read.
  Conditions: each contract's own.
-/
namespace Go.Cps
open Go Go.Proofs

def putAt (cs : Array Value) : Nat → List Value → Array Value
  | _, [] => cs
  | o, v :: r => putAt (cs.setIfInBounds o v) (o + 1) r
@[simp] theorem putAt_size : ∀ (vs : List Value) (cs : Array Value) (o : Nat), (putAt cs o vs).size = cs.size
  | [], _, _ => rfl
  | v :: r, cs, o => by simp [putAt, putAt_size r]
theorem putAt_get : ∀ (vs : List Value) (cs : Array Value) (o i : Nat), o + vs.length ≤ cs.size → (putAt cs o vs)[i]? = if o ≤ i ∧ i < o + vs.length then vs[i - o]? else cs[i]?
  | [], cs, o, i, _ => by simp [putAt]; omega
  | v :: r, cs, o, i, h => by
    simp only [List.length_cons] at h
    rw [putAt, putAt_get r _ (o + 1) i (by simp; omega)]
    by_cases h1 : o + 1 ≤ i ∧ i < o + 1 + r.length
    · rw [if_pos h1, if_pos ⟨by omega, by simp; omega⟩]
      rw [show i - o = (i - (o + 1)) + 1 by omega, List.getElem?_cons_succ]
    · rw [if_neg h1, Array.getElem?_setIfInBounds]
      by_cases h2 : o = i
      · subst h2
        rw [if_pos rfl, if_pos (by omega), if_pos ⟨Nat.le_refl _, by simp⟩]
        simp
      · rw [if_neg h2, if_neg (by simp; omega)]

theorem upd_upd (H : Heap) (b : Nat) (o p : Obj) : upd (upd H b o) b p = upd H b p := by
  apply Array.ext_getElem?
  intro k
  simp only [upd, Array.getElem?_setIfInBounds, Array.size_setIfInBounds]
  split <;> rfl

theorem stores_upd : ∀ (vs : List Value) (H : Heap) (b o i : Nat) (cs : Array Value) (t : TypeId), H[b]? = some (.cells cs t (0, 0)) → o + i + vs.length ≤ cs.size → (∀ v ∈ vs, isOne v = true) →
    storesH ⟨b, o, none⟩ i vs H = some (upd H b (.cells (putAt cs (o + i) vs) t (0, 0)))
  | [], H, b, o, i, cs, t, h, _, _ => by
    simp only [storesH, putAt, Option.some.injEq]
    apply Array.ext_getElem?
    intro k
    by_cases hk : b = k
    · subst hk; rw [upd_same (lt_of_some h), h]
    · rw [upd_ne hk]
  | v :: r, H, b, o, i, cs, t, h, hle, hv => by
    simp only [List.length_cons] at hle
    have h1 : (cellH H ⟨b, o + i, none⟩).isSome = true := by rw [cellH_of h]; simp; omega
    have h2 : frozenH H ⟨b, o + i, none⟩ = false := by simp [frozenH, h]
    have hv1 := hv v List.mem_cons_self
    simp only [storesH, add_mk, hv1, h1, h2, Bool.and_true, Bool.not_false, if_true, setH_eq_upd h]
    rw [stores_upd r _ b o (i + 1) _ t (upd_same (lt_of_some h)) (by simp; omega) (fun v hv' => hv v (List.mem_cons_of_mem _ hv')), upd_upd]
    rw [putAt, Nat.add_assoc]

theorem IsBytes.elems {H : Heap} {v : Value} {l : List UInt8} (h : IsBytes H v l) {m : Nat} (hm : m ≤ l.length) : elemsV 1 m v H = some ((l.take m).map byteV) ∧ countV v = some l.length := by
  rcases h with ⟨b, o, c, rfl, _, hc⟩ | ⟨a', rfl, rfl⟩
  · refine ⟨?_, rfl⟩
    simp only [elemsV, Nat.mul_one]
    refine (cellsH_getElem _ _ _).2 ⟨by simp; omega, fun j hj => ?_⟩
    rw [Nat.zero_add, hc j (by omega)]
    simp [hj]
  · have : m = 0 := by simpa using hm
    subst this
    exact ⟨by cases a' <;> rfl, rfl⟩

/-- copy of bytes into a block -/
theorem copy_of {H : Heap} {bf o dl dc : Nat} {cs : Array Value} {t : TypeId} {x : Value} {l : List UInt8} {K : Value → Heap → Prop} (hb : H[bf]? = some (.cells cs t (0, 0))) (hx : IsBytes H x l) (hle : o + dl ≤ cs.size)
    (h : K (.int .i64 (min l.length dl : Nat)) (upd H bf (.cells (putAt cs o ((l.take (min l.length dl)).map byteV)) t (0, 0)))) : Copy 1 (.slice (some ⟨bf, o, none⟩) dl dc) x H K := by
  obtain ⟨h1, h2⟩ := hx.elems (m := min l.length dl) (Nat.min_le_left _ _)
  refine ⟨_, dl, dc, l.length, _, rfl, h2, h1, _, stores_upd _ H bf o 0 cs t hb (by simp; omega) (fun v hv => by
    obtain ⟨b, _, rfl⟩ := List.mem_map.1 hv; rfl), h⟩

def EOFat (H : Heap) (E : Value) : Prop := ∃ t f, H[0]? = some (.cells #[E] t f)
theorem EOFat.load {H : Heap} {E : Value} (h : EOFat H E) : cellH H ⟨0, 0, none⟩ = some E := by
  obtain ⟨t, f, h⟩ := h
  rw [cellH_of h]; rfl

theorem EOFat.frm {H H' : Heap} {E : Value} {S : List Nat} (h : EOFat H E) (hf : Frm S H H') (h0 : 0 ∉ S) : EOFat H' E := by
  obtain ⟨t, f, h⟩ := h
  exact ⟨t, f, hf.get h h0⟩

theorem Store_of {H : Heap} {b o : Nat} {cs : Array Value} {T : TypeId} {v : Value} {K : Heap → Prop} (h : H[b]? = some (.cells cs T (0, 0))) (ho : o < cs.size) (hv : isOne v = true)
    (hk : ∀ H', H'[b]? = some (.cells (cs.setIfInBounds o v) T (0, 0)) → Frm [b] H H' → H'.size = H.size → K H') : Get (store1V (.pointer (some ⟨b, o, none⟩)) v H) K := by
  rw [store1V_of h ho hv, Get_some]
  exact hk _ (upd_same (lt_of_some h)) (Frm.upd _ (by simp)) (by simp)

def blk : Value → Option Nat
  | .slice (some a) _ _ => some a.block
  | _ => none
theorem IsBytes.frm' {H H' : Heap} {v : Value} {l : List UInt8} {S : List Nat} (h : IsBytes H v l) (hf : Frm S H H') (hn : l ≠ [] → ∀ b, blk v = some b → b ∉ S) : IsBytes H' v l := by
  rcases h with ⟨b, o, c, rfl, h1, h2⟩ | ⟨a', rfl, rfl⟩
  · refine .inl ⟨b, o, c, rfl, h1, fun j hj => ?_⟩
    have hj2 := h2 j hj
    have hs : b < H.size := by
      rcases Nat.lt_or_ge b H.size with h | h
      · exact h
      · exfalso
        rw [List.getElem?_eq_getElem hj] at hj2
        simp [cellH, Array.getElem?_eq_none h] at hj2
    rw [← hj2]
    simp only [cellH, hf.same b hs (hn (by rintro rfl; simp at hj) b rfl)]
  · exact .inr ⟨a', rfl, rfl⟩
theorem IsBytes.frm {H H' : Heap} {v : Value} {l : List UInt8} {S : List Nat} (h : IsBytes H v l) (hf : Frm S H H') (hn : ∀ b, blk v = some b → b ∉ S) : IsBytes H' v l := h.frm' hf fun _ => hn

/- (*bytes.Reader).Read -/
theorem bread_end {br : Nat} {v pv : Value} {l : List UInt8} {pos : Int} {T : TypeId} {H : Heap} {E d : Value} (hb : H[br]? = some (.cells #[v, .int .i64 pos, pv] T (0, 0))) (hv : IsBytes H v l) (he : (l.length : Int) ≤ pos) (hE : EOFat H E) :
    CallsH Tryz.prog 220 #[.pointer (some ⟨br, 0, none⟩), d] H fun x H' => x = .tuple #[.int .i64 0, E] ∧ H' = H := by
  apply s220
  have c0 : cellH H ⟨br, 0, none⟩ = some v := by rw [cellH_of hb]; rfl
  have c1 : cellH H ⟨br, 1, none⟩ = some (.int .i64 pos) := by rw [cellH_of hb]; rfl
  have hd : decide (pos ≥ (l.length : Int)) = true := by simpa using he
  simp only [c220, Fld_ptr, add_mk, Nat.zero_add, c0, c1, Get_some, hv.len, arithV_geq, hd, Br_true, load1V_ptr, hE.load, and_self]

theorem bread_some {br bf o dl dc : Nat} {v pv : Value} {l : List UInt8} {pos : Nat} {T t : TypeId} {cs : Array Value} {H : Heap} (hb : H[br]? = some (.cells #[v, .int .i64 pos, pv] T (0, 0))) (hv : IsBytes H v l) (he : pos < l.length)
    (hl : l.length < 2 ^ 62) (hbf : H[bf]? = some (.cells cs t (0, 0))) (hle : o + dl ≤ cs.size) (hne : br ≠ bf) (hvb : ∀ b, blk v = some b → b ≠ br ∧ b ≠ bf) :
    CallsH Tryz.prog 220 #[.pointer (some ⟨br, 0, none⟩), .slice (some ⟨bf, o, none⟩) dl dc] H fun x H' => x = .tuple #[.int .i64 (min (l.length - pos) dl : Nat), .nilIface] ∧
      H'[br]? = some (.cells #[v, .int .i64 (pos + min (l.length - pos) dl : Nat), .int .i64 (-1)] T (0, 0)) ∧ H'[bf]? = some (.cells (putAt cs o (((l.drop pos).take (min (l.length - pos) dl)).map byteV)) t (0, 0)) ∧
      Frm [br, bf] H H' ∧ H'.size = H.size := by
  apply s220
  have c0 : cellH H ⟨br, 0, none⟩ = some v := by rw [cellH_of hb]; rfl
  have c1 : cellH H ⟨br, 1, none⟩ = some (.int .i64 pos) := by rw [cellH_of hb]; rfl
  have hd : decide ((pos : Int) ≥ (l.length : Int)) = false := by simp; omega
  simp only [c220, Fld_ptr, add_mk, Nat.zero_add, c0, c1, Get_some, hv.len, arithV_geq, hd, Br_false, nilV_ptr, fieldAddrV_ptr]
  refine Store_of hb (by simp) rfl fun H1 hb1 f1 z1 => ?_
  simp only [List.setIfInBounds_toArray, List.set_cons_succ, List.set_cons_zero] at hb1
  have d0 : cellH H1 ⟨br, 0, none⟩ = some v := by rw [cellH_of hb1]; rfl
  have d1 : cellH H1 ⟨br, 1, none⟩ = some (.int .i64 pos) := by rw [cellH_of hb1]; rfl
  have hv1 : IsBytes H1 v l := hv.frm f1 (fun b hb => by simpa using (hvb b hb).1)
  have hbf1 : H1[bf]? = some (.cells cs t (0, 0)) := f1.get hbf (by simpa using fun e => hne e.symm)
  obtain ⟨u, hu, hub⟩ := hv1.from' (Nat.le_of_lt he) .i64
  simp only [d0, d1, Get_some, hu]
  refine copy_of hbf1 hub hle ?_
  have hlen : (l.drop pos).length = l.length - pos := by simp
  rw [hlen]
  generalize hH2 : upd H1 bf (.cells (putAt cs o (((l.drop pos).take (min (l.length - pos) dl)).map byteV)) t (0, 0)) = H2
  have f2 : Frm [bf] H1 H2 := by rw [← hH2]; exact Frm.upd _ (by simp)
  have z2 : H2.size = H1.size := by rw [← hH2]; simp
  have hb2 := f2.get hb1 (by simpa using hne)
  have hbf2 : H2[bf]? = some (.cells (putAt cs o (((l.drop pos).take (min (l.length - pos) dl)).map byteV)) t (0, 0)) := by rw [← hH2]; exact upd_same (lt_of_some hbf1)
  have e1 : cellH H2 ⟨br, 1, none⟩ = some (.int .i64 pos) := by rw [cellH_of hb2]; rfl
  have hw : IntKind.i64.wrap ((pos : Int) + (min (l.length - pos) dl : Nat)) = ((pos + min (l.length - pos) dl : Nat) : Int) := by rw [wrap_i64 (by omega) (by omega)]; omega
  simp only [e1, Get_some, arithV_add, hw]
  refine Store_of hb2 (by simp) rfl fun H3 hb3 f3 z3 => ?_
  simp only [List.setIfInBounds_toArray, List.set_cons_succ, List.set_cons_zero] at hb3
  refine ⟨trivial, hb3, f3.get hbf2 (by simpa using fun e => hne e.symm), ?_, by omega⟩
  exact ((f1.mono (by simp)).trans (f2.mono (by simp))).trans (f3.mono (by simp))
end Go.Cps

/-
  The stack of readers under a multipart Reader: bufio.Reader over the sticky reader over bytes.Reader; its state; sticky Read; fill.
  Conditions: each contract's own.
-/
namespace Go.Cps
open Go Go.Proofs

/-- bytes m laid over buf from o on -/
def spl (buf : List UInt8) (o : Nat) (m : List UInt8) : List UInt8 := buf.take o ++ m ++ buf.drop (o + m.length)
theorem spl_nil (buf : List UInt8) (o : Nat) : spl buf o [] = buf := by simp [spl]
theorem spl_length {buf : List UInt8} {o : Nat} {m : List UInt8} (h : o + m.length ≤ buf.length) : (spl buf o m).length = buf.length := by
  simp [spl]; omega
theorem spl_take {buf : List UInt8} {o : Nat} {m : List UInt8} (h : o + m.length ≤ buf.length) : (spl buf o m).take (o + m.length) = buf.take o ++ m := by
  rw [spl, List.take_left']
  simp; omega
theorem putAt_spl {buf : List UInt8} {o : Nat} {m : List UInt8} (h : o + m.length ≤ buf.length) : putAt (buf.map byteV).toArray o (m.map byteV) = ((spl buf o m).map byteV).toArray := by
  apply Array.ext_getElem?
  intro i
  rw [putAt_get _ _ _ _ (by simpa using h)]
  simp only [List.length_map, List.getElem?_toArray, List.getElem?_map, spl]
  have hl : (buf.take o).length = o := by simp; omega
  by_cases h1 : i < o
  · rw [if_neg (by omega), List.append_assoc, List.getElem?_append_left (by omega), List.getElem?_take, if_pos h1]
  · by_cases h2 : i < o + m.length
    · rw [if_pos ⟨by omega, h2⟩, List.append_assoc, List.getElem?_append_right (by omega), hl, List.getElem?_append_left (by omega)]
    · rw [if_neg (by omega), List.getElem?_append_right (by simp; omega), List.getElem?_drop]
      congr 2
      simp; omega

/-- what does not change of a stack of readers -/
structure Stk where
  b : Nat
  bf : Nat
  st : Nat
  br : Nat
  tb : TypeId
  tbf : TypeId
  ts : TypeId
  tr : TypeId
  v : Value
  l : List UInt8
  Et : TypeId
  Ev : Value
/-- what does -/
structure St where
  buf : List UInt8
  r : Nat
  w : Nat
  pos : Nat
  err : Bool
  serr : Bool
  lb : Int
  lr : Int
  pv : Value
def Stk.er (S : Stk) (e : Bool) : Value := if e then .iface S.Et S.Ev else .nilIface
def Stk.ids (S : Stk) : List Nat := [S.b, S.bf, S.st, S.br]
def bufCells (S : Stk) (s : St) : Array Value := #[.slice (some ⟨S.bf, 0, none⟩) 4096 4096, .iface 123 (.pointer (some ⟨S.st, 0, none⟩)), .int .i64 s.r, .int .i64 s.w, S.er s.err, .int .i64 s.lb, .int .i64 s.lr]
structure RdAt (S : Stk) (s : St) (H : Heap) : Prop where
  hb : H[S.b]? = some (.cells (bufCells S s) S.tb (0, 0))
  hbf : H[S.bf]? = some (.cells (s.buf.map byteV).toArray S.tbf (0, 0))
  hst : H[S.st]? = some (.cells #[.iface 128 (.pointer (some ⟨S.br, 0, none⟩)), S.er s.serr] S.ts (0, 0))
  hbr : H[S.br]? = some (.cells #[S.v, .int .i64 s.pos, s.pv] S.tr (0, 0))
  hv : IsBytes H S.v S.l
  hE : EOFat H (.iface S.Et S.Ev)
  blen : s.buf.length = 4096
  rw : s.r ≤ s.w
  w4 : s.w ≤ 4096
  pl : s.pos ≤ S.l.length
  he : s.err = true → s.pos = S.l.length
  hs : s.serr = true → s.pos = S.l.length
  small : S.l.length < 2 ^ 62
  d0 : 0 ∉ S.ids
  d1 : S.ids.Nodup
  d2 : ∀ x, blk S.v = some x → x ∉ S.ids
def St.rest (S : Stk) (s : St) : List UInt8 := (s.buf.take s.w).drop s.r ++ S.l.drop s.pos

theorem RdAt.ne {S : Stk} {s : St} {H : Heap} (h : RdAt S s H) : S.b ≠ S.bf ∧ S.b ≠ S.st ∧ S.b ≠ S.br ∧ S.bf ≠ S.st ∧ S.bf ≠ S.br ∧ S.st ≠ S.br := by
  have := h.d1
  simp only [Stk.ids, List.nodup_cons, List.mem_cons, not_or, List.not_mem_nil, not_false_eq_true, and_true, List.nodup_nil] at this
  omega
theorem RdAt.frm {S : Stk} {s : St} {H H' : Heap} {X : List Nat} (h : RdAt S s H) (f : Frm X H H') (hx : ∀ x ∈ S.ids, x ∉ X) (hvx : ∀ x, blk S.v = some x → x ∉ X) (h0 : 0 ∉ X) : RdAt S s H' :=
  { h with hb := f.get h.hb (hx _ (by simp [Stk.ids])), hbf := f.get h.hbf (hx _ (by simp [Stk.ids])), hst := f.get h.hst (hx _ (by simp [Stk.ids])), hbr := f.get h.hbr (hx _ (by simp [Stk.ids])), hv := h.hv.frm f hvx, hE := h.hE.frm f h0 }
theorem RdAt.bytes {S : Stk} {s : St} {H : Heap} (h : RdAt S s H) : IsBytes H (.slice (some ⟨S.bf, 0, none⟩) 4096 4096) s.buf := by
  refine .inl ⟨S.bf, 0, 4096, by rw [h.blen], by rw [h.blen]; exact Nat.le_refl _, fun j hj => ?_⟩
  rw [cellH_of h.hbf]
  simp

/-- a slice of the buffer, from i to j -/
theorem RdAt.part {S : Stk} {s : St} {H : Heap} (h : RdAt S s H) {i j : Nat} (h1 : i ≤ j) (h2 : j ≤ 4096) : ∃ u, (∀ k k', sliceV 1 (.slice (some ⟨S.bf, 0, none⟩) 4096 4096) (some (.int k i)) (some (.int k' j)) none = some u) ∧ IsBytes H u ((s.buf.take j).drop i) := by
  have e := h.bytes.sub (lo := i) (hi := j) h1 (by rw [h.blen]; exact h2)
  refine ⟨_, fun k k' => sliceV_of h1 h2 k k', ?_⟩
  simpa [apply_ite] using e

theorem invoke_of {P : Program} {name : String} {t : TypeId} {x : Value} {args : Array Value} {H : Heap} {K : Value → Heap → Prop} (f : FuncId) (h1 : methodRes P t name = some f) (h2 : hasBody P f = true) (h : CallsH P f (#[x] ++ args) H K) : Invoke P name (.iface t x) args H K :=
  ⟨t, x, f, rfl, h1, h2, h⟩
theorem meth128 : methodRes Tryz.prog 128 "Read" = some 220 := by kernel_rfl
theorem meth123 : methodRes Tryz.prog 123 "Read" = some 218 := by kernel_rfl
theorem body220 : hasBody Tryz.prog 220 = true := by kernel_rfl
theorem body218 : hasBody Tryz.prog 218 = true := by kernel_rfl

@[simp] theorem er_true (S : Stk) : S.er true = .iface S.Et S.Ev := rfl
@[simp] theorem er_false (S : Stk) : S.er false = .nilIface := rfl
theorem isOne_er (S : Stk) (e : Bool) : isOne (S.er e) = true := by cases e <;> rfl
theorem neq_er (S : Stk) (e : Bool) : nilV2 .neq .nilIface (S.er e) = some (.bool e) := by cases e <;> rfl

/- the sticky reader's Read, into the buffer from w on -/
theorem sticky_ok {S : Stk} {s : St} {H : Heap} {dc : Nat} (h : RdAt S s H) (hw : s.w < 4096) :
    CallsH Tryz.prog 218 #[.pointer (some ⟨S.st, 0, none⟩), .slice (some ⟨S.bf, s.w, none⟩) (4096 - s.w) dc] H fun x H' => ∃ n pv, n = min (S.l.length - s.pos) (4096 - s.w) ∧
      x = .tuple #[.int .i64 n, S.er (decide (s.pos = S.l.length))] ∧
      RdAt S { s with buf := spl s.buf s.w ((S.l.drop s.pos).take n), pos := s.pos + n, serr := decide (s.pos = S.l.length), pv := pv } H' ∧ Frm S.ids H H' ∧ H'.size = H.size := by
  obtain ⟨n1, n2, n3, n4, n5, n6⟩ := h.ne
  apply s218
  simp only [c218, Fld_ptr, add_mk, Nat.zero_add, List.getElem?_toArray, List.getElem?_cons_succ, List.getElem?_cons_zero, Get_some, Br_true, Br_false, nth_zero, nth_one, nth_two, extractV_tuple, fieldAddrV_ptr, nilV_ptr, load1V_ptr, pickV_bool, unV_not, lenV_slice, capV_slice, cellH_of h.hst, neq_er]
  refine Br_intro (fun hs => ?_) (fun hs => ?_)
  · have hp := h.hs hs
    refine ⟨0, s.pv, by omega, by simp [hs, hp], ?_, Frm.refl _ _, trivial⟩
    simp only [List.take_zero, spl_nil, Nat.add_zero, hp, decide_true]
    rw [← hp]
    rw [show ({ s with serr := true } : St) = s by rw [← hs]]
    exact h
  · by_cases hp : s.pos = S.l.length
    · refine invoke_of 220 meth128 body220 ?_
      refine (bread_end h.hbr h.hv (by omega) h.hE).mono ?_
      rintro x H' ⟨rfl, rfl⟩
      simp only [Fld_ptr, add_mk, Nat.zero_add, List.getElem?_toArray, List.getElem?_cons_succ, List.getElem?_cons_zero, Get_some, Br_true, Br_false, nth_zero, nth_one, nth_two, extractV_tuple, fieldAddrV_ptr, nilV_ptr, load1V_ptr, pickV_bool, unV_not, lenV_slice, capV_slice]
      refine Store_of h.hst (by simp) (isOne_er S true) fun H1 hb1 f1 z1 => ?_
      simp only [List.setIfInBounds_toArray, List.set_cons_succ, List.set_cons_zero] at hb1
      simp only [Fld_ptr, add_mk, Nat.zero_add, List.getElem?_toArray, List.getElem?_cons_succ, List.getElem?_cons_zero, Get_some, Br_true, Br_false, nth_zero, nth_one, nth_two, extractV_tuple, fieldAddrV_ptr, nilV_ptr, load1V_ptr, pickV_bool, unV_not, lenV_slice, capV_slice, cellH_of hb1]
      refine ⟨0, s.pv, by omega, by simp [hp], ?_, f1.mono (by simp [Stk.ids]), z1⟩
      simp only [List.take_zero, spl_nil, Nat.add_zero, hp, decide_true]
      rw [← hp]
      exact { h with hb := f1.get h.hb (by simpa using n2), hbf := f1.get h.hbf (by simpa using n4), hst := hb1, hbr := f1.get h.hbr (by simpa using n6.symm), hv := h.hv.frm f1 (fun x hx => by have := h.d2 x hx; simp [Stk.ids] at this ⊢; omega), hE := h.hE.frm f1 (by have := h.d0; simp [Stk.ids] at this ⊢; omega), hs := fun _ => hp }
    · have hlt : s.pos < S.l.length := by have := h.pl; omega
      refine invoke_of 220 meth128 body220 ?_
      refine (bread_some h.hbr h.hv hlt h.small h.hbf (by simp [h.blen]; omega) (fun e => n5 e.symm) (fun x hx => by have := h.d2 x hx; simp [Stk.ids] at this; omega)).mono ?_
      rintro x H' ⟨rfl, hbr', hbf', f, z⟩
      simp only [Fld_ptr, add_mk, Nat.zero_add, List.getElem?_toArray, List.getElem?_cons_succ, List.getElem?_cons_zero, Get_some, Br_true, Br_false, nth_zero, nth_one, nth_two, extractV_tuple, fieldAddrV_ptr, nilV_ptr, load1V_ptr, pickV_bool, unV_not, lenV_slice, capV_slice]
      have hst' := f.get h.hst (by simp; omega)
      refine Store_of hst' (by simp) (isOne_er S false) fun H1 hb1 f1 z1 => ?_
      simp only [List.setIfInBounds_toArray, List.set_cons_succ, List.set_cons_zero] at hb1
      simp only [Fld_ptr, add_mk, Nat.zero_add, List.getElem?_toArray, List.getElem?_cons_succ, List.getElem?_cons_zero, Get_some, Br_true, Br_false, nth_zero, nth_one, nth_two, extractV_tuple, fieldAddrV_ptr, nilV_ptr, load1V_ptr, pickV_bool, unV_not, lenV_slice, capV_slice, cellH_of hb1]
      have hm : ((S.l.drop s.pos).take (min (S.l.length - s.pos) (4096 - s.w))).length = min (S.l.length - s.pos) (4096 - s.w) := by simp
      have ff : Frm S.ids H H1 := (f.mono (by simp [Stk.ids])).trans (f1.mono (by simp [Stk.ids]))
      rw [putAt_spl (by rw [hm, h.blen]; omega)] at hbf'
      refine ⟨_, .int .i64 (-1), rfl, by simp [hp], ?_, ff, by omega⟩
      have hd : decide (s.pos = S.l.length) = false := by simpa using hp
      rw [hd]
      exact { h with hb := f1.get (f.get h.hb (by simp; omega)) (by simpa using n2), hbf := f1.get hbf' (by simpa using n4), hst := hb1, hbr := f1.get hbr' (by simpa using n6.symm), hv := h.hv.frm ff (fun x hx => h.d2 x hx), hE := h.hE.frm ff h.d0, blen := (spl_length (by rw [hm, h.blen]; omega)).trans h.blen, pl := by simp only []; omega, he := fun e => absurd (h.he e) hp, hs := fun e => by simp at e }
end Go.Cps

/-
  bufio.Reader: fill, readErr, Buffered.
  Conditions: each contract's own.
-/
namespace Go.Cps
open Go Go.Proofs

/-- a new block for the reader, all else as it was -/
theorem RdAt.setb {S : Stk} {s s' : St} {H H' : Heap} (h : RdAt S s H) (f : Frm [S.b] H H') (hb : H'[S.b]? = some (.cells (bufCells S s') S.tb (0, 0))) (e1 : s'.buf = s.buf) (e2 : s'.pos = s.pos) (e3 : s'.serr = s.serr) (e4 : s'.pv = s.pv)
    (rw : s'.r ≤ s'.w) (w4 : s'.w ≤ 4096) (he : s'.err = true → s.pos = S.l.length) : RdAt S s' H' := by
  obtain ⟨n1, n2, n3, n4, n5, n6⟩ := h.ne
  have ff : Frm S.ids H H' := f.mono (by simp [Stk.ids])
  exact { hb := hb, hbf := by rw [e1]; exact f.get h.hbf (by simpa using n1.symm), hst := by rw [e3]; exact f.get h.hst (by simpa using n2.symm), hbr := by rw [e2, e4]; exact f.get h.hbr (by simpa using n3.symm), hv := h.hv.frm ff h.d2, hE := h.hE.frm ff h.d0, blen := by rw [e1]; exact h.blen, rw := rw, w4 := w4, pl := by rw [e2]; exact h.pl, he := by rw [e2]; exact he, hs := by rw [e2, e3]; exact h.hs, small := h.small, d0 := h.d0, d1 := h.d1, d2 := h.d2 }

theorem RdAt.store {S : Stk} {s : St} {H : Heap} (h : RdAt S s H) {o : Nat} {v : Value} {K : Heap → Prop} (s' : St) (ho : o < 7) (hv : isOne v = true) (hc : (bufCells S s).setIfInBounds o v = bufCells S s') (e1 : s'.buf = s.buf) (e2 : s'.pos = s.pos) (e3 : s'.serr = s.serr) (e4 : s'.pv = s.pv)
    (rw : s'.r ≤ s'.w) (w4 : s'.w ≤ 4096) (he : s'.err = true → s.pos = S.l.length) (hk : ∀ H', RdAt S s' H' → Frm S.ids H H' → H'.size = H.size → K H') : Get (store1V (.pointer (some ⟨S.b, o, none⟩)) v H) K := by
  refine Store_of h.hb (by simpa [bufCells] using ho) hv fun H1 hb1 f1 z1 => ?_
  rw [hc] at hb1
  exact hk H1 (h.setb f1 hb1 e1 e2 e3 e4 rw w4 he) (f1.mono (by simp [Stk.ids])) z1

theorem readErr_ok {S : Stk} {s : St} {H : Heap} (h : RdAt S s H) : CallsH Tryz.prog 110 #[.pointer (some ⟨S.b, 0, none⟩)] H fun x H' => x = S.er s.err ∧ RdAt S { s with err := false } H' ∧ Frm S.ids H H' ∧ H'.size = H.size := by
  apply s110
  simp only [c110, Fld_ptr, add_mk, Nat.zero_add, List.getElem?_toArray, List.getElem?_cons_succ, List.getElem?_cons_zero, Get_some, Br_true, Br_false, nth_zero, nth_one, nth_two, extractV_tuple, fieldAddrV_ptr, nilV_ptr, load1V_ptr, pickV_bool, unV_not, lenV_slice, capV_slice, cellH_of h.hb, bufCells]
  exact h.store { s with err := false } (by omega) rfl (by simp only [bufCells, List.setIfInBounds_toArray, List.set_cons_succ, List.set_cons_zero]; rfl) rfl rfl rfl rfl h.rw h.w4 (by simp) fun H' h' f z => ⟨trivial, h', f, z⟩

theorem buffered_ok {S : Stk} {s : St} {H : Heap} (h : RdAt S s H) : CallsH Tryz.prog 111 #[.pointer (some ⟨S.b, 0, none⟩)] H fun x H' => x = .int .i64 (s.w - s.r : Nat) ∧ H' = H := by
  apply s111
  have h1 := h.rw
  have h2 := h.w4
  have e : IntKind.i64.wrap ((s.w : Int) - (s.r : Int)) = ((s.w - s.r : Nat) : Int) := by rw [wrap_i64 (by omega) (by omega)]; omega
  simp only [c111, Fld_ptr, add_mk, Nat.zero_add, List.getElem?_toArray, List.getElem?_cons_succ, List.getElem?_cons_zero, Get_some, Br_true, Br_false, nth_zero, nth_one, nth_two, extractV_tuple, fieldAddrV_ptr, nilV_ptr, load1V_ptr, pickV_bool, unV_not, lenV_slice, capV_slice, arithV_add, arithV_sub, arithV_eql, arithV_neq, arithV_lss, arithV_leq, arithV_gtr, arithV_geq, intConvV_int, cellH_of h.hb, bufCells, e, and_self]

/-- what a fill comes to -/
structure Filled (S : Stk) (s s' : St) : Prop where
  r0 : s'.r = 0
  rest : s'.rest S = s.rest S
  lb : s'.lb = s.lb
  lr : s'.lr = s.lr
  keep : (s'.buf.take (s.w - s.r)) = (s.buf.take s.w).drop s.r
  how : (s.pos < S.l.length ∧ s'.err = false ∧ s.w - s.r < s'.w) ∨ (s.pos = S.l.length ∧ s'.err = true ∧ s'.w = s.w - s.r)

theorem fill_ok {S : Stk} {s : St} {H : Heap} (h : RdAt S s H) (he : s.err = false) (hw : s.w - s.r < 4096) :
    CallsH Tryz.prog 112 #[.pointer (some ⟨S.b, 0, none⟩)] H fun x H' => ∃ s', RdAt S s' H' ∧ Filled S s s' ∧ Frm S.ids H H' ∧ H'.size = H.size := by
  obtain ⟨n1, n2, n3, n4, n5, n6⟩ := h.ne
  have hrw := h.rw
  have hw4 := h.w4
  have hpl := h.pl
  have hsm := h.small
  apply s112
  unfold c112
  refine ⟨fun _ H1 => ∃ s1, RdAt S s1 H1 ∧ s1.r = 0 ∧ s1.w = s.w - s.r ∧ s1.err = false ∧ s1.pos = s.pos ∧ s1.lb = s.lb ∧ s1.lr = s.lr ∧ s1.buf.take s1.w = (s.buf.take s.w).drop s.r ∧ Frm S.ids H H1 ∧ H1.size = H.size, ?_, ?_⟩
  · simp only [Fld_ptr, add_mk, Nat.zero_add, List.getElem?_toArray, List.getElem?_cons_succ, List.getElem?_cons_zero, Get_some, Br_true, Br_false, nth_zero, nth_one, nth_two, extractV_tuple, fieldAddrV_ptr, nilV_ptr, load1V_ptr, pickV_bool, unV_not, lenV_slice, capV_slice, arithV_add, arithV_sub, arithV_eql, arithV_neq, arithV_lss, arithV_leq, arithV_gtr, arithV_geq, intConvV_int, cellH_of h.hb, bufCells]
    refine Br_intro (fun h0 => ?_) (fun h0 => ?_)
    · have h0' : 0 < s.r := by simpa using h0
      obtain ⟨u, hu, hub⟩ := h.part hrw hw4
      simp only [hu, Get_some]
      refine copy_of h.hbf hub (by simp [h.blen]) ?_
      have hl : ((s.buf.take s.w).drop s.r).length = s.w - s.r := by simp [h.blen]; omega
      have hm : min ((s.buf.take s.w).drop s.r).length 4096 = s.w - s.r := by rw [hl]; omega
      rw [hm, List.take_of_length_le (by rw [hl]; exact Nat.le_refl _), putAt_spl (by rw [hl, h.blen]; omega)]
      generalize hH1 : upd H S.bf _ = H1
      have f1 : Frm [S.bf] H H1 := by rw [← hH1]; exact Frm.upd _ (by simp)
      have z1 : H1.size = H.size := by rw [← hH1]; simp
      have hbf1 : H1[S.bf]? = some (.cells ((spl s.buf 0 ((s.buf.take s.w).drop s.r)).map byteV).toArray S.tbf (0, 0)) := by rw [← hH1]; exact upd_same (lt_of_some h.hbf)
      have ff : Frm S.ids H H1 := f1.mono (by simp [Stk.ids])
      have h1 : RdAt S { s with buf := spl s.buf 0 ((s.buf.take s.w).drop s.r) } H1 :=
        { h with hb := f1.get h.hb (by simpa using n1), hbf := hbf1, hst := f1.get h.hst (by simpa using n4.symm), hbr := f1.get h.hbr (by simpa using n5.symm), hv := h.hv.frm ff h.d2, hE := h.hE.frm ff h.d0, blen := (spl_length (by rw [hl, h.blen]; omega)).trans h.blen }
      have e : IntKind.i64.wrap ((s.w : Int) - (s.r : Int)) = ((s.w - s.r : Nat) : Int) := by rw [wrap_i64 (by omega) (by omega)]; omega
      simp only [Fld_ptr, add_mk, Nat.zero_add, List.getElem?_toArray, List.getElem?_cons_succ, List.getElem?_cons_zero, Get_some, Br_true, Br_false, nth_zero, nth_one, nth_two, extractV_tuple, fieldAddrV_ptr, nilV_ptr, load1V_ptr, pickV_bool, unV_not, lenV_slice, capV_slice, arithV_add, arithV_sub, arithV_eql, arithV_neq, arithV_lss, arithV_leq, arithV_gtr, arithV_geq, intConvV_int, cellH_of h1.hb, bufCells, e]
      refine Store_of h1.hb (by simp [bufCells]) rfl fun H2 hb2 f2 z2 => ?_
      simp only [bufCells, List.setIfInBounds_toArray, List.set_cons_succ, List.set_cons_zero] at hb2
      refine Store_of hb2 (by simp) rfl fun H3 hb3 f3 z3 => ?_
      simp only [List.setIfInBounds_toArray, List.set_cons_succ, List.set_cons_zero] at hb3
      have h3 : RdAt S { s with buf := spl s.buf 0 ((s.buf.take s.w).drop s.r), r := 0, w := s.w - s.r } H3 :=
        h1.setb (f2.trans f3) (by rw [hb3]; rfl) rfl rfl rfl rfl (Nat.zero_le _) (by simp only []; omega) h.he
      refine ⟨_, h3, rfl, rfl, he, rfl, rfl, rfl, ?_, ff.trans ((f2.trans f3).mono (by simp [Stk.ids])), by omega⟩
      have := spl_take (buf := s.buf) (o := 0) (m := (s.buf.take s.w).drop s.r) (by rw [hl, h.blen]; omega)
      rw [hl] at this
      simpa using this
    · have h0' : s.r = 0 := by simp at h0; omega
      exact ⟨s, h, h0', by omega, he, rfl, rfl, rfl, by rw [h0', List.drop_zero], Frm.refl _ _, trivial⟩
  · rintro _ H1 ⟨s1, h1, r1, w1, e1, p1, lb1, lr1, b1, ff, z1⟩
    refine Join_direct ?_
    have hw1 : s1.w < 4096 := by omega
    have hd : decide ((s1.w : Int) ≥ ((4096 : Nat) : Int)) = false := by simp; omega
    simp only [Fld_ptr, add_mk, Nat.zero_add, List.getElem?_toArray, List.getElem?_cons_succ, List.getElem?_cons_zero, Get_some, Br_true, Br_false, nth_zero, nth_one, nth_two, extractV_tuple, fieldAddrV_ptr, nilV_ptr, load1V_ptr, pickV_bool, unV_not, lenV_slice, capV_slice, arithV_add, arithV_sub, arithV_eql, arithV_neq, arithV_lss, arithV_leq, arithV_gtr, arithV_geq, intConvV_int, cellH_of h1.hb, bufCells, hd]
    refine ⟨fun _ vs H' => vs = [.int .i64 100] ∧ H' = H1, ⟨0, rfl, rfl⟩, ?_⟩
    rintro _ _ _ ⟨rfl, rfl⟩
    have h100 : decide ((100 : Int) > 0) = true := by decide
    have hu := sliceV_lo (a := some ⟨S.bf, 0, none⟩) (n := 4096) (c := 4096) (size := 1) (lo := s1.w) (by omega) .i64
    rw [if_neg (by omega)] at hu
    simp only [Option.map_some, add_mk, Nat.zero_add, Nat.mul_one] at hu
    simp only [Fld_ptr, add_mk, Nat.zero_add, List.getElem?_toArray, List.getElem?_cons_succ, List.getElem?_cons_zero, Get_some, Br_true, Br_false, nth_zero, nth_one, nth_two, extractV_tuple, fieldAddrV_ptr, nilV_ptr, load1V_ptr, pickV_bool, unV_not, lenV_slice, capV_slice, arithV_add, arithV_sub, arithV_eql, arithV_neq, arithV_lss, arithV_leq, arithV_gtr, arithV_geq, intConvV_int, cellH_of h1.hb, bufCells, h100, hu, nilV_iface]
    refine invoke_of 218 meth123 body218 ?_
    refine (sticky_ok h1 hw1).mono ?_
    rintro x H2 ⟨n, pv, hn, rfl, h2, f2, z2⟩
    simp only [Fld_ptr, add_mk, Nat.zero_add, List.getElem?_toArray, List.getElem?_cons_succ, List.getElem?_cons_zero, Get_some, Br_true, Br_false, nth_zero, nth_one, nth_two, extractV_tuple, fieldAddrV_ptr, nilV_ptr, load1V_ptr, pickV_bool, unV_not, lenV_slice, capV_slice, arithV_add, arithV_sub, arithV_eql, arithV_neq, arithV_lss, arithV_leq, arithV_gtr, arithV_geq, intConvV_int]
    have hd2 : decide ((n : Int) < 0) = false := by simp
    have hd3 : IntKind.i64.wrap ((s1.w : Int) + (n : Int)) = ((s1.w + n : Nat) : Int) := by rw [wrap_i64 (by omega) (by omega)]; omega
    refine Join_direct ?_
    simp only [hd2, Fld_ptr, add_mk, Nat.zero_add, List.getElem?_toArray, List.getElem?_cons_succ, List.getElem?_cons_zero, Get_some, Br_true, Br_false, nth_zero, nth_one, nth_two, extractV_tuple, fieldAddrV_ptr, nilV_ptr, load1V_ptr, pickV_bool, unV_not, lenV_slice, capV_slice, arithV_add, arithV_sub, arithV_eql, arithV_neq, arithV_lss, arithV_leq, arithV_gtr, arithV_geq, intConvV_int, cellH_of h2.hb, bufCells, hd3]
    have hm : ((S.l.drop s1.pos).take n).length = n := by simp; omega
    have hbl := h1.blen
    have htk : (spl s1.buf s1.w ((S.l.drop s1.pos).take n)).take (s1.w + n) = s1.buf.take s1.w ++ (S.l.drop s1.pos).take n := by
      have := spl_take (buf := s1.buf) (o := s1.w) (m := (S.l.drop s1.pos).take n) (by rw [hm, hbl]; omega)
      rwa [hm] at this
    have hrest : ∀ e : Bool, ({ s1 with buf := spl s1.buf s1.w ((S.l.drop s1.pos).take n), w := s1.w + n, pos := s1.pos + n, err := e, serr := decide (s1.pos = S.l.length), pv := pv } : St).rest S = s.rest S := by
      intro e
      simp only [St.rest, r1, List.drop_zero]
      rw [htk, List.append_assoc, ← List.drop_drop, List.take_append_drop, b1, p1]
    have hkeep : (spl s1.buf s1.w ((S.l.drop s1.pos).take n)).take (s.w - s.r) = (s.buf.take s.w).drop s.r := by
      have : ((spl s1.buf s1.w ((S.l.drop s1.pos).take n)).take (s1.w + n)).take s1.w = s1.buf.take s1.w := by
        rw [htk, List.take_left']
        simp; omega
      rw [List.take_take, Nat.min_eq_left (by omega)] at this
      rw [← w1, this, b1]
    refine h2.store { s1 with buf := spl s1.buf s1.w ((S.l.drop s1.pos).take n), w := s1.w + n, pos := s1.pos + n, serr := decide (s1.pos = S.l.length), pv := pv } (by omega) rfl (by simp only [bufCells, List.setIfInBounds_toArray, List.set_cons_succ, List.set_cons_zero]) rfl rfl rfl rfl (by simp only []; omega) (by simp only []; omega) (by simp [e1]) fun H3 h3 f3 z3 => ?_
    simp only [neq_er, Get_some]
    refine Br_intro (fun hp => ?_) (fun hp => ?_)
    · have hp' : s1.pos = S.l.length := by simpa using hp
      have hn0 : n = 0 := by omega
      refine h3.store { s1 with buf := spl s1.buf s1.w ((S.l.drop s1.pos).take n), w := s1.w + n, pos := s1.pos + n, err := true, serr := decide (s1.pos = S.l.length), pv := pv } (by omega) (isOne_er S _) (by simp only [bufCells, List.setIfInBounds_toArray, List.set_cons_succ, List.set_cons_zero, hp]) rfl rfl rfl rfl (by simp only []; omega) (by simp only []; omega) (fun _ => by simp only []; omega) fun H4 h4 f4 z4 => ?_
      exact ⟨_, h4, ⟨r1, hrest true, lb1, lr1, hkeep, .inr ⟨by omega, rfl, by simp only []; omega⟩⟩, ((ff.trans f2).trans f3).trans f4, by omega⟩
    · have hp' : s1.pos ≠ S.l.length := by simpa using hp
      have hd4 : decide ((n : Int) > 0) = true := by simp; omega
      simp only [hd4, Br_true]
      exact ⟨_, h3, ⟨r1, hrest s1.err, lb1, lr1, hkeep, .inl ⟨by omega, e1, by simp only []; omega⟩⟩, (ff.trans f2).trans f3, by omega⟩
end Go.Cps
