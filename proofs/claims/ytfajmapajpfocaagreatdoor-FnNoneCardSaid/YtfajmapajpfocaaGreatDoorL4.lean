/-
  Copying bytes; bytes.Reader.Read; the sticky reader's Read.
  Conditions: each contract's own.
-/
import Derived.Test.YtfajmapajpfocaaGreatDoorL3
set_option linter.all false
namespace Go.Cps
open Go Go.Proofs

def putAt (cs : Array Value) : Nat → List Value → Array Value
  | _, [] => cs
  | o, v :: r => putAt (cs.setIfInBounds o v) (o + 1) r
@[simp] theorem putAt_size : ∀ (vs : List Value) (cs : Array Value) (o : Nat), (putAt cs o vs).size = cs.size
  | [], _, _ => rfl
  | v :: r, cs, o => by simp [putAt, putAt_size r]
theorem putAt_get : ∀ (vs : List Value) (cs : Array Value) (o i : Nat), o + vs.length ≤ cs.size → (putAt cs o vs)[i]? = if o ≤ i ∧ i < o + vs.length then vs[i - o]? else cs[i]?
  | [], cs, o, i, _ => by simp [putAt]; omega
  | v :: r, cs, o, i, h => by
    simp only [List.length_cons] at h
    rw [putAt, putAt_get r _ (o + 1) i (by simp; omega)]
    by_cases h1 : o + 1 ≤ i ∧ i < o + 1 + r.length
    · rw [if_pos h1, if_pos ⟨by omega, by simp; omega⟩]
      rw [show i - o = (i - (o + 1)) + 1 by omega, List.getElem?_cons_succ]
    · rw [if_neg h1, Array.getElem?_setIfInBounds]
      by_cases h2 : o = i
      · subst h2
        rw [if_pos rfl, if_pos (by omega), if_pos ⟨Nat.le_refl _, by simp⟩]
        simp
      · rw [if_neg h2, if_neg (by simp; omega)]

theorem upd_upd (H : Heap) (b : Nat) (o p : Obj) : upd (upd H b o) b p = upd H b p := by
  apply Array.ext_getElem?
  intro k
  simp only [upd, Array.getElem?_setIfInBounds, Array.size_setIfInBounds]
  split <;> rfl

theorem stores_upd : ∀ (vs : List Value) (H : Heap) (b o i : Nat) (cs : Array Value) (t : TypeId), H[b]? = some (.cells cs t (0, 0)) → o + i + vs.length ≤ cs.size → (∀ v ∈ vs, isOne v = true) →
    storesH ⟨b, o, none⟩ i vs H = some (upd H b (.cells (putAt cs (o + i) vs) t (0, 0)))
  | [], H, b, o, i, cs, t, h, _, _ => by
    simp only [storesH, putAt, Option.some.injEq]
    apply Array.ext_getElem?
    intro k
    by_cases hk : b = k
    · subst hk; rw [upd_same (lt_of_some h), h]
    · rw [upd_ne hk]
  | v :: r, H, b, o, i, cs, t, h, hle, hv => by
    simp only [List.length_cons] at hle
    have h1 : (cellH H ⟨b, o + i, none⟩).isSome = true := by rw [cellH_of h]; simp; omega
    have h2 : frozenH H ⟨b, o + i, none⟩ = false := by simp [frozenH, h]
    have hv1 := hv v List.mem_cons_self
    simp only [storesH, add_mk, hv1, h1, h2, Bool.and_true, Bool.not_false, if_true, setH_eq_upd h]
    rw [stores_upd r _ b o (i + 1) _ t (upd_same (lt_of_some h)) (by simp; omega) (fun v hv' => hv v (List.mem_cons_of_mem _ hv')), upd_upd]
    rw [putAt, Nat.add_assoc]

theorem isOne_byteV (b : UInt8) : isOne (byteV b) = true := rfl

theorem IsBytes.elems {H : Heap} {v : Value} {l : List UInt8} (h : IsBytes H v l) {m : Nat} (hm : m ≤ l.length) : elemsV 1 m v H = some ((l.take m).map byteV) ∧ countV v = some l.length := by
  rcases h with ⟨b, o, c, rfl, _, hc⟩ | ⟨rfl, rfl⟩
  · refine ⟨?_, rfl⟩
    simp only [elemsV, Nat.mul_one]
    refine (cellsH_getElem _ _ _).2 ⟨by simp; omega, fun j hj => ?_⟩
    rw [Nat.zero_add, hc j (by omega)]
    simp [hj]
  · have : m = 0 := by simpa using hm
    subst this
    exact ⟨rfl, rfl⟩

/-- copy of bytes into a block -/
theorem copy_of {H : Heap} {bf o dl dc : Nat} {cs : Array Value} {t : TypeId} {x : Value} {l : List UInt8} {K : Value → Heap → Prop} (hb : H[bf]? = some (.cells cs t (0, 0))) (hx : IsBytes H x l) (hle : o + dl ≤ cs.size)
    (h : K (.int .i64 (min l.length dl : Nat)) (upd H bf (.cells (putAt cs o ((l.take (min l.length dl)).map byteV)) t (0, 0)))) : Copy 1 (.slice (some ⟨bf, o, none⟩) dl dc) x H K := by
  obtain ⟨h1, h2⟩ := hx.elems (m := min l.length dl) (Nat.min_le_left _ _)
  refine ⟨_, dl, dc, l.length, _, rfl, h2, h1, _, stores_upd _ H bf o 0 cs t hb (by simp; omega) (fun v hv => by
    obtain ⟨b, _, rfl⟩ := List.mem_map.1 hv; rfl), h⟩

def EOFat (H : Heap) (E : Value) : Prop := ∃ t f, H[0]? = some (.cells #[E] t f)
theorem EOFat.load {H : Heap} {E : Value} (h : EOFat H E) : cellH H ⟨0, 0, none⟩ = some E := by
  obtain ⟨t, f, h⟩ := h
  rw [cellH_of h]; rfl

theorem EOFat.frm {H H' : Heap} {E : Value} {S : List Nat} (h : EOFat H E) (hf : Frm S H H') (h0 : 0 ∉ S) : EOFat H' E := by
  obtain ⟨t, f, h⟩ := h
  exact ⟨t, f, hf.get h h0⟩

theorem Store_of {H : Heap} {b o : Nat} {cs : Array Value} {T : TypeId} {v : Value} {K : Heap → Prop} (h : H[b]? = some (.cells cs T (0, 0))) (ho : o < cs.size) (hv : isOne v = true)
    (hk : ∀ H', H'[b]? = some (.cells (cs.setIfInBounds o v) T (0, 0)) → Frm [b] H H' → H'.size = H.size → K H') : Get (store1V (.pointer (some ⟨b, o, none⟩)) v H) K := by
  rw [store1V_of h ho hv, Get_some]
  exact hk _ (upd_same (lt_of_some h)) (Frm.upd _ (by simp)) (by simp)

def blk : Value → Option Nat
  | .slice (some a) _ _ => some a.block
  | _ => none
theorem IsBytes.frm {H H' : Heap} {v : Value} {l : List UInt8} {S : List Nat} (h : IsBytes H v l) (hf : Frm S H H') (hn : ∀ b, blk v = some b → b ∉ S) : IsBytes H' v l := by
  rcases h with ⟨b, o, c, rfl, h1, h2⟩ | ⟨rfl, rfl⟩
  · refine .inl ⟨b, o, c, rfl, h1, fun j hj => ?_⟩
    have hj2 := h2 j hj
    have hs : b < H.size := by
      rcases Nat.lt_or_ge b H.size with h | h
      · exact h
      · exfalso
        rw [List.getElem?_eq_getElem hj] at hj2
        simp [cellH, Array.getElem?_eq_none h] at hj2
    rw [← hj2]
    simp only [cellH, hf.same b hs (hn b rfl)]
  · exact .inr ⟨rfl, rfl⟩

/- (*bytes.Reader).Read -/
theorem bread_end {br : Nat} {v pv : Value} {l : List UInt8} {pos : Int} {T : TypeId} {H : Heap} {E d : Value} (hb : H[br]? = some (.cells #[v, .int .i64 pos, pv] T (0, 0))) (hv : IsBytes H v l) (he : (l.length : Int) ≤ pos) (hE : EOFat H E) :
    CallsH Tryz.prog 220 #[.pointer (some ⟨br, 0, none⟩), d] H fun x H' => x = .tuple #[.int .i64 0, E] ∧ H' = H := by
  apply s220
  have c0 : cellH H ⟨br, 0, none⟩ = some v := by rw [cellH_of hb]; rfl
  have c1 : cellH H ⟨br, 1, none⟩ = some (.int .i64 pos) := by rw [cellH_of hb]; rfl
  have hd : decide (pos ≥ (l.length : Int)) = true := by simpa using he
  simp only [c220, Fld_ptr, add_mk, Nat.zero_add, c0, c1, Get_some, hv.len, arithV_geq, hd, Br_true, load1V_ptr, hE.load, and_self]

theorem bread_some {br bf o dl dc : Nat} {v pv : Value} {l : List UInt8} {pos : Nat} {T t : TypeId} {cs : Array Value} {H : Heap} (hb : H[br]? = some (.cells #[v, .int .i64 pos, pv] T (0, 0))) (hv : IsBytes H v l) (he : pos < l.length)
    (hl : l.length < 2 ^ 62) (hbf : H[bf]? = some (.cells cs t (0, 0))) (hle : o + dl ≤ cs.size) (hne : br ≠ bf) (hvb : ∀ b, blk v = some b → b ≠ br ∧ b ≠ bf) :
    CallsH Tryz.prog 220 #[.pointer (some ⟨br, 0, none⟩), .slice (some ⟨bf, o, none⟩) dl dc] H fun x H' => x = .tuple #[.int .i64 (min (l.length - pos) dl : Nat), .nilIface] ∧
      H'[br]? = some (.cells #[v, .int .i64 (pos + min (l.length - pos) dl : Nat), .int .i64 (-1)] T (0, 0)) ∧ H'[bf]? = some (.cells (putAt cs o (((l.drop pos).take (min (l.length - pos) dl)).map byteV)) t (0, 0)) ∧
      Frm [br, bf] H H' ∧ H'.size = H.size := by
  apply s220
  have c0 : cellH H ⟨br, 0, none⟩ = some v := by rw [cellH_of hb]; rfl
  have c1 : cellH H ⟨br, 1, none⟩ = some (.int .i64 pos) := by rw [cellH_of hb]; rfl
  have hd : decide ((pos : Int) ≥ (l.length : Int)) = false := by simp; omega
  simp only [c220, Fld_ptr, add_mk, Nat.zero_add, c0, c1, Get_some, hv.len, arithV_geq, hd, Br_false, nilV_ptr, fieldAddrV_ptr]
  refine Store_of hb (by simp) rfl fun H1 hb1 f1 z1 => ?_
  simp only [List.setIfInBounds_toArray, List.set_cons_succ, List.set_cons_zero] at hb1
  have d0 : cellH H1 ⟨br, 0, none⟩ = some v := by rw [cellH_of hb1]; rfl
  have d1 : cellH H1 ⟨br, 1, none⟩ = some (.int .i64 pos) := by rw [cellH_of hb1]; rfl
  have hv1 : IsBytes H1 v l := hv.frm f1 (fun b hb => by simpa using (hvb b hb).1)
  have hbf1 : H1[bf]? = some (.cells cs t (0, 0)) := f1.get hbf (by simpa using fun e => hne e.symm)
  obtain ⟨u, hu, hub⟩ := hv1.from' (Nat.le_of_lt he) .i64
  simp only [d0, d1, Get_some, hu]
  refine copy_of hbf1 hub hle ?_
  have hlen : (l.drop pos).length = l.length - pos := by simp
  rw [hlen]
  generalize hH2 : upd H1 bf (.cells (putAt cs o (((l.drop pos).take (min (l.length - pos) dl)).map byteV)) t (0, 0)) = H2
  have f2 : Frm [bf] H1 H2 := by rw [← hH2]; exact Frm.upd _ (by simp)
  have z2 : H2.size = H1.size := by rw [← hH2]; simp
  have hb2 := f2.get hb1 (by simpa using hne)
  have hbf2 : H2[bf]? = some (.cells (putAt cs o (((l.drop pos).take (min (l.length - pos) dl)).map byteV)) t (0, 0)) := by rw [← hH2]; exact upd_same (lt_of_some hbf1)
  have e1 : cellH H2 ⟨br, 1, none⟩ = some (.int .i64 pos) := by rw [cellH_of hb2]; rfl
  have hw : IntKind.i64.wrap ((pos : Int) + (min (l.length - pos) dl : Nat)) = ((pos + min (l.length - pos) dl : Nat) : Int) := by rw [wrap_i64 (by omega) (by omega)]; omega
  simp only [e1, Get_some, arithV_add, hw]
  refine Store_of hb2 (by simp) rfl fun H3 hb3 f3 z3 => ?_
  simp only [List.setIfInBounds_toArray, List.set_cons_succ, List.set_cons_zero] at hb3
  refine ⟨trivial, hb3, f3.get hbf2 (by simpa using fun e => hne e.symm), ?_, by omega⟩
  exact ((f1.mono (by simp)).trans (f2.mono (by simp))).trans (f3.mono (by simp))
end Go.Cps
