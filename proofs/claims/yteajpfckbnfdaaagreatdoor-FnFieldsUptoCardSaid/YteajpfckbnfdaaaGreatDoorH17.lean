/-
  A part of the proof: Slices of structs and of strings, as they read: each element's cells; owned ones, and one element more. A header's line cut at its colon, its key made canonical in place: in the buffer below r, or in a row of its own. A header's line cut at its colon: the key made canonical in place, the value behind it. The look at a value's bytes. The entries of a header's map: each key's values in a window of a row of strings; one value more. One value more in a header's map: out of the row that is cut up, or by append.
  Conditions: each contract's own.
-/
import Derived.Test.YteajpfckbnfdaaaGreatDoorH16
set_option linter.all false
namespace Go.Cps
open Go Go.Proofs
def SlV {α : Type} (w : Nat) (R : List Nat → Heap → α → List Value → Prop) (D : List Nat) (H : Heap) (v : Value) (l : List α) : Prop :=
  (∃ b o c, v = .slice (some ⟨b, o, none⟩) l.length c ∧ l.length ≤ c ∧ b ∉ D ∧ b < H.size ∧ ∀ j (hj : j < l.length), ∃ vs : List Value, vs.length = w ∧ R D H l[j] vs ∧ ∀ i, i < w → cellH H ⟨b, o + (j * w + i), none⟩ = vs[i]?) ∨ (∃ a, v = .slice a 0 0 ∧ l = [])
structure RelOk {α : Type} (R : List Nat → Heap → α → List Value → Prop) : Prop where
  frm : ∀ {D X H H' a vs}, R D H a vs → Frm X H H' → (∀ x ∈ X, x ∈ D ∨ H.size ≤ x) → R D H' a vs
  new : ∀ {D H a vs g}, R D H a vs → H.size ≤ g → R (g :: D) H a vs
  sub : ∀ {D D' H a vs}, (∀ x ∈ D', x ∈ D) → R D H a vs → R D' H a vs
  one : ∀ {D H a vs}, R D H a vs → ∀ v ∈ vs, isOne v = true
section
variable {α : Type} {w : Nat} {R : List Nat → Heap → α → List Value → Prop} {D : List Nat} {H : Heap} {v : Value} {l : List α}
theorem SlV.len (h : SlV w R D H v l) : lenV v = some (.int .i64 l.length) := by
  rcases h with ⟨b, o, c, rfl, _⟩ | ⟨a', rfl, rfl⟩ <;> rfl
theorem SlV.frm (hR : RelOk R) {H' : Heap} {X : List Nat} (h : SlV w R D H v l) (f : Frm X H H') (hX : ∀ x ∈ X, x ∈ D ∨ H.size ≤ x) : SlV w R D H' v l := by
  rcases h with ⟨b, o, c, rfl, h1, h2, h3, h4⟩ | h
  · refine .inl ⟨b, o, c, rfl, h1, h2, Nat.lt_of_lt_of_le h3 f.size, fun j hj => ?_⟩
    obtain ⟨vs, g1, g2, g3⟩ := h4 j hj
    refine ⟨vs, g1, hR.frm g2 f hX, fun i hi => ?_⟩
    rw [← g3 i hi]
    have : H'[b]? = H[b]? := f.same b h3 (fun hm => by
      rcases hX b hm with h | h
      · exact h2 h
      · omega)
    simp only [cellH, this]
  · exact .inr h
theorem SlV.sub (hR : RelOk R) {D' : List Nat} (hD : ∀ x ∈ D', x ∈ D) (h : SlV w R D H v l) : SlV w R D' H v l := by
  rcases h with ⟨b, o, c, rfl, h1, h2, h3, h4⟩ | h
  · refine .inl ⟨b, o, c, rfl, h1, fun hm => h2 (hD b hm), h3, fun j hj => ?_⟩
    obtain ⟨vs, g1, g2, g3⟩ := h4 j hj
    exact ⟨vs, g1, hR.sub hD g2, g3⟩
  · exact .inr h
theorem cellsH_of {b o : Nat} {vs : List Value} (h : ∀ i, i < vs.length → cellH H ⟨b, o + i, none⟩ = vs[i]?) : cellsH H ⟨b, o, none⟩ 0 vs.length = some vs :=
  (cellsH_getElem _ _ _).2 ⟨rfl, fun j hj => by rw [Nat.zero_add]; exact h j hj⟩
theorem SlV.elem (h : SlV w R D H v l) {j : Nat} (hj : j < l.length) : ∃ a vs, (∀ k : IntKind, elemAddrV w v (.int k j) = some (.pointer (some a))) ∧ loadNV w (.pointer (some a)) H = some (.agg vs.toArray) ∧ vs.length = w ∧ R D H l[j] vs ∧ (∀ i, i < w → cellH H (a.add i) = vs[i]?) := by
  rcases h with ⟨b, o, c, rfl, h1, h2, h3, h4⟩ | ⟨_, _, rfl⟩
  · obtain ⟨vs, g1, g2, g3⟩ := h4 j hj
    have e : ∀ i, i < w → cellH H ⟨b, o + j * w + i, none⟩ = vs[i]? := fun i hi => by rw [Nat.add_assoc]; exact g3 i hi
    refine ⟨⟨b, o + j * w, none⟩, vs, fun k => ?_, ?_, g1, g2, fun i hi => ?_⟩
    · have := elemAddr_of (b := b) (o := o) (n := l.length) (c := c) (size := w) (k := k) (i := (j : Int)) (by omega) (by omega)
      simpa using this
    · have hc := cellsH_of (H := H) (b := b) (o := o + j * w) (vs := vs) (fun i hi => e i (by omega))
      rw [g1] at hc
      simp only [loadNV, hc, Option.map_some]
    · rw [Q1]; exact e i hi
  · simp at hj
end
def OwnS {α : Type} (w T : Nat) (R : List Nat → Heap → α → List Value → Prop) (D : List Nat) (H : Heap) (k : Option Nat) (v : Value) (l : List α) : Prop := match k with
  | none => v = .slice none 0 0 ∧ l = []
  | some g => ∃ (cells : Array Value) (c : Nat), v = .slice (some ⟨g, 0, none⟩) l.length c ∧ H[g]? = some (.cells cells T (0, 0)) ∧ cells.size = c * w ∧ l.length ≤ c ∧ g ∉ D ∧ ∀ j (hj : j < l.length), ∃ vs : List Value, vs.length = w ∧ R (g :: D) H l[j] vs ∧ ∀ i, i < w → cells[j * w + i]? = vs[i]?
section
variable {α : Type} {w T : Nat} {R : List Nat → Heap → α → List Value → Prop} {D : List Nat} {H : Heap} {v : Value} {l : List α} {k : Option Nat}
theorem OwnS.slV (hR : RelOk R) (h : OwnS w T R D H k v l) : SlV w R D H v l := by
  cases k with
  | none => exact .inr ⟨none, h⟩
  | some g =>
    obtain ⟨cells, c, rfl, hg, hc, hl, hD, he⟩ := h
    refine .inl ⟨g, 0, c, rfl, hl, hD, lt_of_some hg, fun j hj => ?_⟩
    obtain ⟨vs, g1, g2, g3⟩ := he j hj
    refine ⟨vs, g1, hR.sub (fun x hx => by simp [hx]) g2, fun i hi => ?_⟩
    rw [cellH_of hg, Nat.zero_add]
    exact g3 i hi
theorem OwnS.frm (hR : RelOk R) {H' : Heap} {X : List Nat} (h : OwnS w T R D H k v l) (f : Frm X H H') (hX : ∀ x ∈ X, (x ∈ D ∨ H.size ≤ x) ∧ k ≠ some x) : OwnS w T R D H' k v l := by
  cases k with
  | none => exact h
  | some g =>
    obtain ⟨cells, c, rfl, hg, hc, hl, hD, he⟩ := h
    refine ⟨cells, c, rfl, f.get hg (fun hm => (hX g hm).2 rfl), hc, hl, hD, fun j hj => ?_⟩
    obtain ⟨vs, g1, g2, g3⟩ := he j hj
    exact ⟨vs, g1, hR.frm g2 f (fun x hx => by
      rcases (hX x hx).1 with h | h
      · exact .inl (by simp [h])
      · exact .inr h), g3⟩
theorem OwnS.sub (hR : RelOk R) {D' : List Nat} (hD : ∀ x ∈ D', x ∈ D) (h : OwnS w T R D H k v l) : OwnS w T R D' H k v l := by
  cases k with
  | none => exact h
  | some g =>
    obtain ⟨cells, c, rfl, hg, hc, hl, hgD, he⟩ := h
    refine ⟨cells, c, rfl, hg, hc, hl, fun hm => hgD (hD g hm), fun j hj => ?_⟩
    obtain ⟨vs, g1, g2, g3⟩ := he j hj
    exact ⟨vs, g1, hR.sub (fun x hx => by
      rcases List.mem_cons.1 hx with rfl | hx
      · simp
      · simp [hD x hx]) g2, g3⟩
theorem OwnS.lt (h : OwnS w T R D H k v l) : ∀ g, k = some g → g < H.size ∧ g ∉ D := by
  rintro g rfl
  obtain ⟨cells, c, rfl, hg, hc, hl, hD, he⟩ := h
  exact ⟨lt_of_some hg, hD⟩
theorem putAt_old (cs : Array Value) (o : Nat) (vs : List Value) (i : Nat) (hi : i < o) (hle : o + vs.length ≤ cs.size) : (putAt cs o vs)[i]? = cs[i]? := by
  rw [putAt_get _ _ _ _ hle, if_neg (by omega)]
theorem putAt_new (cs : Array Value) (o : Nat) (vs : List Value) (i : Nat) (hi : i < vs.length) (hle : o + vs.length ≤ cs.size) : (putAt cs o vs)[o + i]? = vs[i]? := by
  rw [putAt_get _ _ _ _ hle, if_pos (by omega)]
  congr 1
  omega
theorem append_one (hR : RelOk R) {bytes : Nat} {zero : Array Value} {xb xc : Nat} {xs : List Value} {a : α} {K : Value → Heap → Prop} (h : OwnS w T R D H k v l) (hx : ∀ i, i < w → cellH H ⟨xb, i, none⟩ = xs[i]?) (hxl : xs.length = w) (ha : R (k.toList ++ D) H a xs)
    (hz : zero.size = w) (hl : l.length < 2 ^ 36) (hb : bytes ≤ 64) (hD : ∀ x ∈ D, x < H.size) (hw : 0 < w ∧ w ≤ 64)
    (hK : ∀ k' v' H', OwnS w T R D H' k' v' (l ++ [a]) → Frm k.toList H H' → (k' = k ∨ ∃ g, k' = some g ∧ H.size ≤ g) → K v' H') :
    Append T w bytes zero v (.slice (some ⟨xb, 0, none⟩) 1 xc) H K := by
  have hxe : elemsV w 1 (.slice (some ⟨xb, 0, none⟩) 1 xc) H = some xs := by
    simp only [elemsV, Nat.one_mul]
    have := cellsH_of (H := H) (b := xb) (o := 0) (vs := xs) (fun i hi => by rw [Nat.zero_add]; exact hx i (by omega))
    rw [hxl] at this
    exact this
  cases k with
  | none =>
    obtain ⟨rfl, rfl⟩ := h
    refine ⟨_, _, _, 1, _, rfl, rfl, hxe, .inr ⟨by omega, by omega, by rw [nextcap0]; omega, [], rfl, fun c hc => ?_⟩⟩
    have f1 : Frm [] H (H.push (.cells (([] : List Value).toArray ++ xs.toArray ++ zeros zero (c - (0 + 1))) T (0, 0))) := Frm.push _ _ _
    have hp := push_same H (.cells (([] : List Value).toArray ++ xs.toArray ++ zeros zero (c - (0 + 1))) T (0, 0))
    refine hK (some H.size) _ _ ⟨_, c, rfl, hp, ?_, by simpa using hc, fun hm => by have := hD _ hm; omega, fun j hj => ?_⟩ f1 (.inr ⟨_, rfl, Nat.le_refl _⟩)
    · simp only [Array.size_append, List.size_toArray, List.length_nil, hxl, zeros, Builtin.zeroCells]
      have : (c - 1) * w + w = c * w := by
        rw [Nat.sub_mul, Nat.one_mul]
        have : w ≤ c * w := Nat.le_mul_of_pos_left w (by omega)
        omega
      simp [hz]; omega
    · simp at hj
      subst hj
      refine ⟨xs, hxl, hR.frm (hR.new (by simpa using ha) (Nat.le_refl _)) f1 (by simp), fun i hi => ?_⟩
      rw [Array.append_assoc, Array.getElem?_append_right (by simp), Array.getElem?_append_left (by simp; omega)]
      simp
  | some g =>
    obtain ⟨cells, c, rfl, hg, hc, hle, hgD, he⟩ := h
    refine ⟨_, _, _, 1, _, rfl, rfl, hxe, ?_⟩
    by_cases hroom : l.length + 1 ≤ c
    · left
      have hsz : l.length * w + xs.length ≤ cells.size := by
        rw [hc, hxl]
        have := Nat.mul_le_mul_right w hroom
        rw [Nat.add_mul, Nat.one_mul] at this
        exact this
      refine ⟨hroom, ?_⟩
      have hst := stores_upd xs H g (l.length * w) 0 cells T hg (by simpa using hsz) (hR.one ha)
      simp only [storeRow, Q1, Nat.zero_add, hst, Q6, Nat.add_zero]
      have f1 : Frm [g] H (upd H g (.cells (putAt cells (l.length * w) xs) T (0, 0))) := Frm.upd _ (by simp)
      have hfr : ∀ {b ys}, R (g :: D) H b ys → R (g :: D) (upd H g (.cells (putAt cells (l.length * w) xs) T (0, 0))) b ys := fun hb => hR.frm hb f1 (fun x hx => by rw [List.mem_singleton] at hx; exact .inl (by simp [hx]))
      refine hK (some g) _ _ ⟨putAt cells (l.length * w) xs, c, by simp, upd_same (lt_of_some hg), by rw [putAt_size, hc], by simpa using hroom, hgD, fun j hj => ?_⟩ f1 (.inl rfl)
      simp only [List.length_append, List.length_singleton] at hj
      by_cases hjl : j < l.length
      · obtain ⟨vs, g1, g2, g3⟩ := he j hjl
        refine ⟨vs, g1, ?_, fun i hi => ?_⟩
        · rw [List.getElem_append_left hjl]; exact hfr g2
        · rw [putAt_old _ _ _ _ ?_ hsz]
          · exact g3 i hi
          · have : (j + 1) * w ≤ l.length * w := Nat.mul_le_mul_right w hjl
            rw [Nat.add_mul, Nat.one_mul] at this
            omega
      · have hj' : j = l.length := by omega
        subst hj'
        refine ⟨xs, hxl, ?_, fun i hi => ?_⟩
        · rw [List.getElem_append_right (Nat.le_refl _)]; simpa using hfr (by simpa using ha)
        · exact putAt_new _ _ _ _ (by omega) hsz
    · right
      have hlt : c < l.length + 1 := by omega
      have hcap := nextslicecap_le hlt
      have hsz0 : cells.size = l.length * w := by rw [hc]; congr 1; omega
      refine ⟨hlt, by omega, ?_, cells.toList, ?_, fun c' hc' => ?_⟩
      · have h1 : Builtin.nextslicecap (l.length + 1) c * bytes ≤ Builtin.nextslicecap (l.length + 1) c * 64 := Nat.mul_le_mul_left _ hb
        omega
      · simp only [elemsV]
        rw [← hsz0]
        exact cellsH_all hg
      · have f1 : Frm [] H (H.push (.cells (cells.toList.toArray ++ xs.toArray ++ zeros zero (c' - (l.length + 1))) T (0, 0))) := Frm.push _ _ _
        have hp := push_same H (.cells (cells.toList.toArray ++ xs.toArray ++ zeros zero (c' - (l.length + 1))) T (0, 0))
        have hnew : ∀ {b ys}, R (g :: D) H b ys → R (H.size :: D) (H.push (.cells (cells.toList.toArray ++ xs.toArray ++ zeros zero (c' - (l.length + 1))) T (0, 0))) b ys := fun hb => hR.frm (hR.new (hR.sub (fun x hx => by simp [hx]) hb) (Nat.le_refl _)) f1 (by simp)
        refine hK (some H.size) _ _ ⟨_, c', by simp, hp, ?_, by simpa using hc', fun hm => by have := hD _ hm; omega, fun j hj => ?_⟩ (f1.mono (by simp)) (.inr ⟨_, rfl, Nat.le_refl _⟩)
        · simp only [Array.size_append, List.size_toArray, Array.length_toList, hxl, zeros, Builtin.zeroCells, hsz0]
          have h1 : (c' - (l.length + 1)) * w + (l.length + 1) * w = c' * w := by
            rw [← Nat.add_mul]; congr 1; omega
          have h2 : (l.length + 1) * w = l.length * w + w := by rw [Nat.add_mul, Nat.one_mul]
          simp [hz]; omega
        · simp only [List.length_append, List.length_singleton] at hj
          by_cases hjl : j < l.length
          · obtain ⟨vs, g1, g2, g3⟩ := he j hjl
            refine ⟨vs, g1, ?_, fun i hi => ?_⟩
            · rw [List.getElem_append_left hjl]; exact hnew g2
            · have hlt2 : j * w + i < cells.size := by
                have : (j + 1) * w ≤ l.length * w := Nat.mul_le_mul_right w hjl
                rw [Nat.add_mul, Nat.one_mul] at this
                omega
              rw [Array.append_assoc, Array.getElem?_append_left (by simpa using hlt2), ← g3 i hi]
          · have hj' : j = l.length := by omega
            subst hj'
            refine ⟨xs, hxl, ?_, fun i hi => ?_⟩
            · rw [List.getElem_append_right (Nat.le_refl _)]; simpa using hnew (by simpa using ha)
            · rw [Array.append_assoc, Array.getElem?_append_right (by simp; omega), Array.getElem?_append_left (by simp; omega)]
              simp [hsz0]
end
end Go.Cps
namespace Go.Cps
open Go Go.Proofs
theorem bytesCut_at {u : Value} {b o n c : Nat} {p q : List UInt8} {ch : UInt8} {H : Heap} (hv : IsBytes H (.slice (some ⟨b, o, none⟩) n c) (p ++ ch :: q)) (hu : IsBytes H u [ch]) (hp : ch ∉ p) (hl : (p ++ ch :: q).length < 2 ^ 40) :
    CallsH Tryz.prog 173 #[.slice (some ⟨b, o, none⟩) n c, u] H fun x H' => H' = H ∧ ∃ oz cz, x = .tuple #[.slice (some ⟨b, o, none⟩) p.length c, .slice (some ⟨b, oz, none⟩) q.length cz, .bool true] ∧ IsBytes H (.slice (some ⟨b, oz, none⟩) q.length cz) q ∧ (q ≠ [] → oz = o + p.length + 1) := by
  have hn : n = (p ++ ch :: q).length ∧ n ≤ c := by
    rcases hv with ⟨b', o', c', he, hc, _⟩ | ⟨_, _, hnil⟩
    · cases he; exact ⟨rfl, hc⟩
    · simp at hnil
  obtain ⟨hn1, hn2⟩ := hn
  have hn3 : n = p.length + 1 + q.length := by rw [hn1]; simp; omega
  apply s170
  unfold c170
  have hl2 : p.length + q.length + 1 < 2 ^ 40 := by simp at hl; omega
  refine (bytesIndexT_ok hv hu hl (by simp)).mono ?_
  rintro x H1 ⟨rfl, ⟨rfl, hno⟩ | ⟨i, rfl, hi⟩⟩
  · exfalso
    refine hno p.length (by simp) ?_
    simp
  · have hi2 : i = p.length := by
      obtain ⟨h1, h2, h3⟩ := hi
      rcases Nat.lt_trichotomy i p.length with h | h | h
      · exfalso
        have := at_of_take h2 (j := 0) (by simp)
        rw [Nat.add_zero, List.getElem?_append_left h] at this
        exact hp (List.mem_of_getElem? (by simpa using this))
      · exact h
      · exfalso
        refine h3 p.length h ?_
        simp
    subst hi2
    have d0 : decide ((p.length : Int) ≥ 0) = true := by simp
    have e1 : IntKind.i64.wrap ((p.length : Int) + ((1 : Nat) : Int)) = ((p.length + 1 : Nat) : Int) := by rw [wrap_i64 (by omega) (by omega)]; omega
    have hy := sliceV_hi (a := some ⟨b, o, none⟩) (n := n) (c := c) (size := 1) (hi := p.length) (by omega) .i64
    have hz := sliceV_lo (a := some ⟨b, o, none⟩) (n := n) (c := c) (size := 1) (lo := p.length + 1) (by omega) .i64
    have hzb := hv.sub (lo := p.length + 1) (hi := n) (by omega) (by omega)
    rw [List.take_of_length_le (by omega), show p ++ ch :: q = (p ++ [ch]) ++ q by simp, List.drop_left' (by simp)] at hzb
    simp only [Qk, Ql, Qm, Qn, Qo, Qp, Qq, Qr, Qs, Q0, Q1, Q2, Q3, Q4, Q5, Q6, Q7, Q8, Q9, Qa, Qb, Qc, Qd, Qe, Qf, Qg, Qh, Qi, Qj, d0, hy, hu.len, List.length_singleton, e1, hz]
    have hq : n - (p.length + 1) = q.length := by omega
    rw [hq] at hzb ⊢
    by_cases hcl : c = p.length + 1
    · rw [if_pos hcl] at hzb ⊢
      exact ⟨trivial, o, _, rfl, hzb, fun hq0 => absurd (List.eq_nil_of_length_eq_zero (by omega)) hq0⟩
    · rw [if_neg hcl] at hzb ⊢
      refine ⟨trivial, o + (p.length + 1), c - (p.length + 1), by simp, hzb, fun _ => by omega⟩
theorem IsBytes.behind {H H' : Heap} {b o oz n cz : Nat} {cs : Array Value} {t : TypeId} {vs : List Value} {q : List UInt8} (h : IsBytes H (.slice (some ⟨b, oz, none⟩) n cz) q) (hb : H[b]? = some (.cells cs t (0, 0))) (hb' : H'[b]? = some (.cells (putAt cs o vs) t (0, 0))) (hle : o + vs.length ≤ cs.size) (hoz : q ≠ [] → o + vs.length ≤ oz) : IsBytes H' (.slice (some ⟨b, oz, none⟩) n cz) q := by
  rcases h with ⟨b', o', c', he, hc, hcell⟩ | ⟨_, he, hnil⟩
  · cases he
    refine .inl ⟨b, oz, cz, rfl, hc, fun j hj => ?_⟩
    have hq : q ≠ [] := by rintro rfl; simp at hj
    have := hoz hq
    rw [cellH_of hb', putAt_get _ _ _ _ hle, if_neg (by omega), ← cellH_of hb, hcell j hj]
  · cases he
    exact .inr ⟨_, rfl, hnil⟩
theorem RdAt.turn {S : Stk} {s : St} {H H' : Heap} {o : Nat} {m : List UInt8} (h : RdAt S s H) (f : Frm [S.bf] H H') (ho : o + m.length ≤ s.r) (hb : H'[S.bf]? = some (.cells (putAt (s.buf.map byteV).toArray o (m.map byteV)) S.tbf (0, 0))) :
    RdAt S { s with buf := spl s.buf o m } H' ∧ ({ s with buf := spl s.buf o m } : St).rest S = s.rest S := by
  obtain ⟨n1, n2, n3, n4, n5, n6⟩ := h.ne
  have hrw := h.rw
  have hw4 := h.w4
  have hbl := h.blen
  have ff : Frm S.ids H H' := f.mono (by simp [Stk.ids])
  rw [putAt_spl (by omega)] at hb
  refine ⟨{ h with hb := f.get h.hb (by simpa using n1), hbf := hb, hst := f.get h.hst (by simpa using n4.symm), hbr := f.get h.hbr (by simpa using n5.symm), hv := h.hv.frm ff h.d2, hE := h.hE.frm ff h.d0, blen := (spl_length (by omega)).trans h.blen }, ?_⟩
  show ((spl s.buf o m).take s.w).drop s.r ++ _ = (s.buf.take s.w).drop s.r ++ _
  have e : ((spl s.buf o m).take s.w).drop s.r = (s.buf.take s.w).drop s.r := by
    apply List.ext_getElem?
    intro i
    rw [List.getElem?_drop, List.getElem?_drop, List.getElem?_take, List.getElem?_take]
    split
    · have h1 : (spl s.buf o m).drop (o + m.length) = s.buf.drop (o + m.length) := by
        unfold spl
        rw [List.drop_left' (by simp; omega)]
      have h2 : ((spl s.buf o m).drop (o + m.length))[s.r + i - (o + m.length)]? = (s.buf.drop (o + m.length))[s.r + i - (o + m.length)]? := by rw [h1]
      rw [List.getElem?_drop, List.getElem?_drop, show o + m.length + (s.r + i - (o + m.length)) = s.r + i by omega] at h2
      exact h2
    · rfl
  rw [e]
end Go.Cps
namespace Go.Cps
open Go Go.Proofs
theorem keyCut_ok {S : Stk} {tr : Nat} {key v q : List UInt8} {u : Value} {s' : St} {k' : Option Nat} {H : Heap} (hc : Cont S tr (key ++ 58 :: v) q u s' k' H) (htr : tr ∉ S.ids) (hk' : ∀ g, k' = some g → g ∉ tr :: S.ids ∧ blk S.v ≠ some g ∧ g ≠ 0)
    (hkey : key ≠ []) (htok : ∀ b ∈ key, tok b.toNat = true) (hl : key.length + v.length < 5000) (hct : S.tbf = 5) {R : Value → Value → Heap → Prop}
    (hR : ∀ z s'' H', RdAt S s'' H' → s''.rest S = q → IsBytes H' z v → (∃ tbuf', TR S tr tbuf' H' ∧ OwnE H' k' tbuf') → (blk z = some S.bf ∨ blk z = k') → Frm (k'.toList ++ S.ids) H H' → R (strVal (canonG true key)) z H') {R2 R3 : Heap → Prop} :
    Get (Instr.fill (fun j => some (j * 1, 1)) ((Array.range (1 * 1)).map ((#[(.int .u8 0)] : Array Value)[· % 1]!)) [(0, (.int .u8 58))]) fun cs => NewSl cs 5 1 H fun x84 H =>
    MarkS x84 H fun x85 H =>
    CallsH Tryz.prog 173 #[u, x85] H fun x86 H =>
    Get (extractV x86 0) fun x87 =>
    Get (extractV x86 1) fun x88 =>
    Get (extractV x86 2) fun x89 =>
    Get (unV .not x89) fun x91 =>
    Br x91 (R2 H) (
    CallsH Tryz.prog 84 #[x87] H fun x96 H =>
    Get (extractV x96 0) fun x97 =>
    Get (extractV x96 1) fun x98 =>
    Get (unV .not x98) fun x100 =>
    Br x100 (R3 H) (R x97 x88 H)) := by
  have h58 : (58 : UInt8) ∉ key := by
    intro hm
    have := htok 58 hm
    simp [tok, alnum] at this
  -- where the line lies
  have hloc : ∃ b o n c cs, u = .slice (some ⟨b, o, none⟩) n c ∧ H[b]? = some (.cells cs 5 (0, 0)) ∧ n = (key ++ 58 :: v).length ∧ n ≤ c ∧ o + n ≤ cs.size ∧ (∀ j, j < n → cs[o + j]? = ((key ++ 58 :: v)[j]?).map byteV) ∧ ((b = S.bf ∧ cs = (s'.buf.map byteV).toArray ∧ o + n ≤ s'.r) ∨ (k' = some b)) := by
    have hb := hc.bytes
    rcases hc.where_ with ⟨o, n, c, rfl, hle⟩ | hown
    · rcases hb with ⟨b', o', c', he, hcc, hcell⟩ | ⟨_, _, hnil⟩
      · cases he
        have hbf := hc.rd.hbf
        rw [hct] at hbf
        refine ⟨S.bf, o, _, c, _, rfl, hbf, rfl, hcc, ?_, fun j hj => ?_, .inl ⟨rfl, rfl, hle⟩⟩
        · have h1 := hc.rd.rw; have h2 := hc.rd.w4; have h3 := hc.rd.blen; rw [List.size_toArray, List.length_map, h3]; omega
        · rw [← hcell j hj, cellH_of hbf]
      · simp at hnil
    · cases k' with
      | none => have := hown.2; simp at this
      | some g =>
        obtain ⟨cells, rfl, hg, ht, hle⟩ := hown
        refine ⟨g, 0, _, _, cells, rfl, hg, rfl, hle, by omega, fun j hj => ?_, .inr rfl⟩
        have : (cells.toList.take (key ++ 58 :: v).length)[j]? = ((key ++ 58 :: v).map byteV)[j]? := by rw [ht]
        rw [List.getElem?_take, if_pos hj, List.getElem?_map] at this
        simpa using this
  obtain ⟨b, o, n, c, cs, rfl, hcs, hn, hnc, hsz, hcell, hwh⟩ := hloc
  have hlen : n = key.length + 1 + v.length := by rw [hn]; simp; omega
  refine lit1 (c := 58) fun H1 hl1 f1 z1 => ?_
  have hbl := hc.bytes.frm f1 (by simp)
  have hcs1 := f1.get hcs (by simp)
  refine (bytesCut_at hbl hl1 h58 (by simp; omega)).mono ?_
  rintro x H1 ⟨rfl, oz, cz, rfl, hz, hoz⟩
  simp only [Q0, Q1, Q2, Q3, Q4, Q5, Q6, Q7, Q8, Q9, Qa, Qb, Qc, Qd, Qe, Qf, Qg, Qh, Qi, Qj, Bool.not_true]
  refine (canonKey_ok hcs1 (fun j hj => ?_) (by omega) (by omega) hkey htok (by omega)).mono ?_
  · rw [hcell j (by omega), List.getElem?_append_left hj]
  rintro x H2 ⟨rfl, hg2, f2, z2⟩
  simp only [Q0, Q1, Q2, Q3, Q4, Q5, Q6, Q7, Q8, Q9, Qa, Qb, Qc, Qd, Qe, Qf, Qg, Qh, Qi, Qj, Bool.not_true]
  have hcl := canonG_length true key
  have hz2 := hz.behind hcs1 hg2 (by rw [List.length_map, hcl]; omega) (fun hv => by rw [hoz hv, List.length_map, hcl]; omega)
  obtain ⟨tbuf, ht, ho⟩ := hc.tr_
  have ht1 : TR S tr tbuf H1 := f1.get ht (by simp)
  have ho1 := ho.frm f1 (by simp)
  have hrd1 : RdAt S s' H1 := hc.rd.frm f1 (by simp) (by simp) (by simp)
  rcases hwh with ⟨rfl, hbuf, hor⟩ | hkb
  · have hb2 : H2[S.bf]? = some (.cells (putAt (s'.buf.map byteV).toArray o ((canonG true key).map byteV)) S.tbf (0, 0)) := by rw [hct, ← hbuf]; exact hg2
    obtain ⟨h3, h4⟩ := hrd1.turn f2 (by rw [hcl]; omega) hb2
    refine hR _ _ _ h3 (h4.trans hc.rest) hz2 ⟨tbuf, f2.get ht1 (fun hm => htr (by rw [List.mem_singleton] at hm; rw [hm]; simp [Stk.ids])), ho1.frm f2 (fun g hg hm => ?_)⟩ (.inl rfl) ((f1.mono (by simp)).trans (f2.mono (by simp [Stk.ids])))
    rw [List.mem_singleton] at hm
    exact (hk' g hg).1 (by rw [hm]; simp [Stk.ids])
  · obtain ⟨hb1, hb2, hb3⟩ := hk' b hkb
    simp only [List.mem_cons, not_or] at hb1
    have h3 : RdAt S s' H2 := hrd1.frm f2 (fun x hx hm => hb1.2 (by rw [List.mem_singleton] at hm; rw [← hm]; exact hx)) (fun x hx hm => hb2 (by rw [List.mem_singleton] at hm; rw [← hm]; exact hx)) (fun hm => hb3 (by rw [List.mem_singleton] at hm; exact hm.symm))
    refine hR _ _ _ h3 hc.rest hz2 ⟨tbuf, f2.get ht1 (fun hm => hb1.1 (by rw [List.mem_singleton] at hm; exact hm.symm)), ?_⟩ (.inr hkb.symm) ((f1.mono (by simp)).trans (f2.mono (by simp [hkb])))
    subst hkb
    exact ho1.put hcs1 hg2
end Go.Cps
namespace Go.Cps
open Go Go.Proofs
theorem valLoop_ok {z : Value} {v : List UInt8} {H : Heap} {E X : Heap → Prop} (hz : IsBytes H z v) (hv : ∀ b ∈ v, printV b.toNat = true) (hl : v.length < 2 ^ 30) (hX : X H) :
    Get (lenV z) fun x104 =>
    Loop [(.int .i64 0)] H fun K9 vs10 H =>
    Get (arithV .lss .i64 (nth vs10 0) x104) fun x106 =>
    Br x106 (
    Get (elemAddrV 1 z (nth vs10 0)) fun x107 =>
    Get (load1V x107 H) fun x108 =>
    CallsH Tryz.prog 174 #[x108] H fun x110 H =>
    Get (unV .not x110) fun x111 =>
    Br x111 (E H) (
    Get (arithV .add .i64 (nth vs10 0) (.int .i64 1)) fun x114 =>
    K9 [x114] H)) (X H) := by
  simp only [hz.len, Q6]
  refine ⟨fun n vs H' => ∃ i : Nat, vs = [.int .i64 i] ∧ n = v.length - i ∧ i ≤ v.length ∧ H' = H, ⟨_, 0, rfl, rfl, Nat.zero_le _, rfl⟩, ?_⟩
  rintro n vs H ⟨i, rfl, rfl, hi, rfl⟩
  have dd : ∀ a b : Nat, decide ((a : Int) < (b : Int)) = decide (a < b) := fun a b => by simp
  simp only [Q0, Q1, Q2, Q3, Q4, Q5, Q6, Q7, Q8, Q9, Qa, Qb, Qc, Qd, Qe, Qf, Qg, Qh, Qi, Qj, Qk, Ql, Qm, Qn, Qo, Qp, Qq, Qr, Qs, dd]
  refine Br_intro (fun hlt => ?_) (fun hlt => hX)
  have hlt' : i < v.length := by simpa using hlt
  obtain ⟨a, ha, hca⟩ := elem_at hz hlt' (by omega)
  simp only [ha, Q0, Q1, Q2, Q3, Q4, Q5, Q6, Q7, Q8, Q9, Qa, Qb, Qc, Qd, Qe, Qf, Qg, Qh, Qi, Qj, hca]
  refine valueByte_ok.mono ?_
  rintro x H1 ⟨rfl, rfl⟩
  have e1 : IntKind.i64.wrap ((i : Int) + 1) = ((i + 1 : Nat) : Int) := by rw [wrap_i64 (by omega) (by omega)]; omega
  simp only [Q0, Q1, Q2, Q3, Q4, Q5, Q6, Q7, Q8, Q9, Qa, Qb, Qc, Qd, Qe, Qf, Qg, Qh, Qi, Qj, hv _ (List.getElem_mem hlt'), Bool.not_true, Qk, Ql, Qm, Qn, Qo, Qp, Qq, Qr, Qs, e1]
  exact ⟨_, by omega, i + 1, rfl, rfl, hlt', trivial⟩
end Go.Cps
namespace Go.Cps
open Go Go.Proofs
structure Ent where
  key : List UInt8
  b : Nat
  o : Nat
  c : Nat
  vs : List (List UInt8)
def Ent.pair (e : Ent) : List UInt8 × Value := (e.key, .slice (some ⟨e.b, e.o, none⟩) e.vs.length e.c)
def Ent.hd (e : Ent) : List UInt8 × List (List UInt8) := (e.key, e.vs)
def Ent.off (e f : Ent) : Prop := e.b ≠ f.b ∨ e.o + e.c ≤ f.o ∨ f.o + f.c ≤ e.o
theorem Ent.off.symm {e f : Ent} (h : e.off f) : f.off e := by
  rcases h with h | h | h
  · exact .inl h.symm
  · exact .inr (.inr h)
  · exact .inr (.inl h)
def addH (k v : List UInt8) : List (List UInt8 × List (List UInt8)) → List (List UInt8 × List (List UInt8))
  | [] => [(k, [v])]
  | p :: r => if p.1 = k then (p.1, p.2 ++ [v]) :: r else p :: addH k v r
structure Ents (H : Heap) (m N : Nat) (E : List Ent) : Prop where
  map : MapAt H m (E.map Ent.pair)
  strs : ∀ e ∈ E, StrsAt H e.b e.o e.c e.vs
  apart : E.Pairwise Ent.off
  few : ∀ e ∈ E, e.vs.length ≤ N
def Ents.blks (m : Nat) (E : List Ent) : List Nat := m :: E.map (·.b)
theorem Ents.frm {H H' : Heap} {m N : Nat} {E : List Ent} {X : List Nat} (h : Ents H m N E) (f : Frm X H H') (hx : ∀ x ∈ Ents.blks m E, x ∉ X) : Ents H' m N E :=
  ⟨h.map.frm f (hx m (by simp [Ents.blks])), fun e he => (h.strs e he).frm f (hx _ (by simp only [Ents.blks, List.mem_cons, List.mem_map]; exact .inr ⟨e, he, rfl⟩)), h.apart, h.few⟩
def Left (H : Heap) (E : List Ent) (st : Value) (n : Nat) (sb : Option Nat) : Prop := ∃ a, st = .slice a n n ∧ (n = 0 ∨ ∃ b o, sb = some b ∧ a = some ⟨b, o, none⟩ ∧ (∃ cells : Array Value, H[b]? = some (.cells cells 9 (0, 0)) ∧ o + n ≤ cells.size) ∧ ∀ e ∈ E, e.b ≠ b ∨ e.o + e.c ≤ o)
theorem Left.frm {H H' : Heap} {E : List Ent} {st : Value} {n : Nat} {sb : Option Nat} {X : List Nat} (h : Left H E st n sb) (f : Frm X H H') (hx : ∀ b, sb = some b → b ∉ X) : Left H' E st n sb := by
  obtain ⟨a, h1, h2⟩ := h
  refine ⟨a, h1, ?_⟩
  rcases h2 with h2 | ⟨b, o, h2, h3, ⟨cells, h4, h5⟩, h6⟩
  · exact .inl h2
  · exact .inr ⟨b, o, h2, h3, ⟨cells, f.get h4 (hx b h2), h5⟩, h6⟩
theorem getE_none {k : List UInt8} : ∀ {E : List Ent}, getE k (E.map Ent.pair) = none → (∀ v, addH k v (E.map Ent.hd) = E.map Ent.hd ++ [(k, [v])]) ∧ ∀ v, setE k v (E.map Ent.pair) = E.map Ent.pair ++ [(k, v)]
  | [], _ => ⟨fun _ => rfl, fun _ => rfl⟩
  | e :: r, h => by
    simp only [List.map_cons, getE] at h
    split at h
    · cases h
    · rename_i hk
      obtain ⟨h1, h2⟩ := getE_none h
      have hk' : ¬ e.key = k := hk
      refine ⟨fun v => ?_, fun v => ?_⟩
      · simp only [List.map_cons, addH, Ent.hd, if_neg hk', List.cons_append]
        rw [h1]
      · simp only [List.map_cons, setE, Ent.pair, if_neg hk', List.cons_append]
        rw [h2]
theorem getE_some {k : List UInt8} {u : Value} : ∀ {E : List Ent}, getE k (E.map Ent.pair) = some u → ∃ A e B, E = A ++ e :: B ∧ e.key = k ∧ u = e.pair.2 ∧ (∀ v, addH k v (E.map Ent.hd) = A.map Ent.hd ++ (k, e.vs ++ [v]) :: B.map Ent.hd) ∧ ∀ v, setE k v (E.map Ent.pair) = A.map Ent.pair ++ (k, v) :: B.map Ent.pair
  | [], h => by cases h
  | e :: r, h => by
    simp only [List.map_cons, getE] at h
    split at h
    · rename_i hk
      cases h
      have hk' : e.key = k := hk
      exact ⟨[], e, r, rfl, hk', rfl, fun v => by simp [addH, Ent.hd, hk'], fun v => by simp [setE, Ent.pair, hk']⟩
    · rename_i hk
      have hk' : ¬ e.key = k := hk
      obtain ⟨A, e', B, rfl, h1, h2, h3, h4⟩ := getE_some h
      refine ⟨e :: A, e', B, rfl, h1, h2, fun v => ?_, fun v => ?_⟩
      · have := h3 v
        rw [List.map_cons, addH, if_neg (by exact hk'), this]; rfl
      · have := h4 v
        rw [List.map_cons, setE, if_neg (by exact hk'), this]; rfl
end Go.Cps
namespace Go.Cps
open Go Go.Proofs
theorem sliceV_cap {a : Option Addr} {n c size hi mx : Nat} (h2 : hi ≤ mx) (h3 : mx ≤ c) (k' k2 : IntKind) : sliceV size (.slice a n c) none (some (.int k' hi)) (some (.int k2 mx)) = some (.slice a hi mx) := by
  have e0 : boundV (some (.int k2 mx)) c c = some mx := by simp [boundV]; omega
  have e1 : boundV (some (.int k' hi)) n mx = some hi := by simp [boundV]; omega
  have e2 : boundV none 0 hi = some 0 := rfl
  simp only [sliceV, boundsV, e0, e1, e2, Nat.zero_mul, Nat.sub_zero, Option.some.injEq, Value.slice.injEq, and_true]
  split
  · rfl
  · cases a with
    | none => rfl
    | some a => simp [Addr.add]
theorem cutStr_ok {H : Heap} {m n N : Nat} {E : List Ent} {st : Value} {sb : Option Nat} {k v : List UInt8} {K : Value → Heap → Prop} (hE : Ents H m N E) (hL : Left H E st n sb) (hn : 0 < n) (hg : getE k (E.map Ent.pair) = none) (hm : sb ≠ some m)
    (hK : ∀ E' st' H', Ents H' m (N + 1) E' → E'.map Ent.hd = addH k v (E.map Ent.hd) → Left H' E' st' (n - 1) sb → Frm (m :: sb.toList) H H' → H'.size = H.size → (∀ x ∈ Ents.blks m E', x ∈ Ents.blks m E ∨ sb = some x) → K st' H') :
    Get (sliceV 1 st none (some (.int .i64 1)) (some (.int .i64 1))) fun x150 =>
    Get (sliceV 1 st (some (.int .i64 1)) none none) fun x152 =>
    Get (elemAddrV 1 x150 (.int .i64 0)) fun x155 =>
    Get (store1V x155 (strVal v) H) fun H =>
    ExecV Tryz.prog (do Instr.mapUpdate 82 (.map (some m)) (strVal k) x150; pure undef) H fun _ H => K x152 H := by
  obtain ⟨a, rfl, hL⟩ := hL
  rcases hL with h0 | ⟨b, o, rfl, rfl, ⟨cells, hc, ho⟩, hoff⟩
  · omega
  have e1 : sliceV 1 (.slice (some ⟨b, o, none⟩) n n) none (some (.int .i64 1)) (some (.int .i64 1)) = some (.slice (some ⟨b, o, none⟩) 1 1) := sliceV_cap (hi := 1) (mx := 1) (Nat.le_refl _) (by omega) .i64 .i64
  have e2 : sliceV 1 (.slice (some ⟨b, o, none⟩) n n) (some (.int .i64 1)) none none = some (.slice (if n = 1 then some ⟨b, o, none⟩ else some ⟨b, o + 1, none⟩) (n - 1) (n - 1)) := by
    have := sliceV_lo (a := some ⟨b, o, none⟩) (n := n) (c := n) (size := 1) (lo := 1) (by omega) .i64
    simpa using this
  have e3 : elemAddrV 1 (.slice (some ⟨b, o, none⟩) 1 1) (.int .i64 0) = some (.pointer (some ⟨b, o, none⟩)) := by
    have := elemAddr_of (b := b) (o := o) (n := 1) (c := 1) (size := 1) (k := .i64) (i := 0) (by omega) (by omega)
    simpa using this
  simp only [e1, e2, e3, Q6]
  refine Store_of hc (by omega) rfl fun H1 hc1 f1 z1 => ?_
  have hbm : b ≠ m := fun e => hm (by rw [e])
  have hmap1 := hE.map.frm f1 (by simpa using hbm.symm)
  obtain ⟨hs1, hs2⟩ := getE_none hg
  obtain ⟨H2, hm2, f2, z2, hex⟩ := update_of und106 (k := k) (v := .slice (some ⟨b, o, none⟩) 1 1) hmap1
  rw [hex]
  have hc2 := f2.get hc1 (by simpa using hbm)
  have hnew : StrsAt H2 b o 1 [v] := ⟨_, hc2, by simp, by simp; omega, fun j hj => by
    simp only [List.length_singleton] at hj
    have : j = 0 := by omega
    subst this
    rw [Nat.add_zero, Array.getElem?_setIfInBounds, if_pos rfl, if_pos (by omega)]; rfl⟩
  have hne : ∀ e ∈ E, e.b ≠ m := fun e he hh => by
    obtain ⟨cs, hcs, _⟩ := hE.strs e he
    obtain ⟨es, c, hm0, _⟩ := hE.map
    rw [hh, hm0] at hcs
    cases hcs
  refine hK (E ++ [⟨k, b, o, 1, [v]⟩]) _ _ ⟨?_, fun e he => ?_, ?_, ?_⟩ ?_ ?_ ?_ (by omega) ?_
  · rw [hs2] at hm2
    simpa [Ent.pair] using hm2
  · rcases List.mem_append.1 he with he | he
    · exact ((hE.strs e he).keep hc hc1 f1 (by rcases hoff e he with h | h; exact .inl h; exact .inr (.inr h))).frm f2 (by simpa using hne e he)
    · rw [List.mem_singleton] at he
      subst he
      exact hnew
  · rw [List.pairwise_append]
    refine ⟨hE.apart, by simp, fun e he e' he' => ?_⟩
    rw [List.mem_singleton] at he'
    subst he'
    rcases hoff e he with h | h
    · exact .inl h
    · exact .inr (.inl h)
  · intro e he
    rcases List.mem_append.1 he with he | he
    · exact Nat.le_succ_of_le (hE.few e he)
    · rw [List.mem_singleton] at he; subst he; simp
  · rw [hs1]; simp [Ent.hd]
  · refine ⟨_, rfl, ?_⟩
    by_cases h1 : n = 1
    · exact .inl (by omega)
    · refine .inr ⟨b, o + 1, rfl, by rw [if_neg h1], ⟨_, hc2, by simp; omega⟩, fun e he => ?_⟩
      rcases List.mem_append.1 he with he | he
      · rcases hoff e he with h | h
        · exact .inl h
        · exact .inr (by omega)
      · rw [List.mem_singleton] at he
        subst he
        exact .inr (Nat.le_refl _)
  · exact (f1.mono (by simp)).trans (f2.mono (by simp))
  · intro x hx
    simp only [Ents.blks, List.map_append, List.mem_cons, List.mem_append, List.map_cons, List.map_nil, List.not_mem_nil, or_false] at hx ⊢
    rcases hx with h | h | h
    · exact .inl (.inl h)
    · exact .inl (.inr h)
    · exact .inr (by rw [h])
theorem pairwise_mid {α : Type} {R : α → α → Prop} (hs : ∀ {a b}, R a b → R b a) {A B : List α} {x : α} (h : (A ++ x :: B).Pairwise R) : ∀ y ∈ A ++ B, R y x := by
  rw [List.pairwise_append] at h
  obtain ⟨_, h2, h3⟩ := h
  rw [List.pairwise_cons] at h2
  intro y hy
  rcases List.mem_append.1 hy with hy | hy
  · exact h3 y hy x (by simp)
  · exact hs (h2.1 y hy)
theorem pairwise_put {α : Type} {R : α → α → Prop} (hs : ∀ {a b}, R a b → R b a) {A B : List α} {x z : α} (h : (A ++ x :: B).Pairwise R) (hz : ∀ y ∈ A ++ B, R y z) : (A ++ z :: B).Pairwise R := by
  rw [List.pairwise_append] at h ⊢
  obtain ⟨h1, h2, h3⟩ := h
  rw [List.pairwise_cons] at h2 ⊢
  refine ⟨h1, ⟨fun y hy => hs (hz y (by simp [hy])), h2.2⟩, fun y hy w hw => ?_⟩
  rcases List.mem_cons.1 hw with rfl | hw
  · exact hz y (by simp [hy])
  · exact h3 y hy w (by simp [hw])
theorem fill1 {v : Value} (hv : isOne v = true) {z : Value} : Instr.fill (fun j => some (j * 1, 1)) ((Array.range (1 * 1)).map ((#[z] : Array Value)[· % 1]!)) [(0, v)] = some #[v] := by
  have e0 : ((Array.range (1 * 1)).map ((#[z] : Array Value)[· % 1]!)) = #[z] := by
    have : (Array.range (1 * 1)) = #[0] := by decide
    rw [this]
    simp
  rw [e0, fill_cons (off := 0) hv rfl (by simp)]
  rfl
theorem appStr_ok {H : Heap} {m n N : Nat} {E : List Ent} {st : Value} {sb : Option Nat} {k v : List UInt8} {K : Heap → Prop} (hE : Ents H m N E) (hL : Left H E st n sb) (hblt : ∀ b, sb = some b → b < H.size) (hN : N < 2 ^ 39)
    (hK : ∀ E' H', Ents H' m (N + 1) E' → E'.map Ent.hd = addH k v (E.map Ent.hd) → Left H' E' st n sb → Frm (Ents.blks m E) H H' → (∀ x ∈ Ents.blks m E', x ∈ Ents.blks m E ∨ H.size ≤ x) → K H') :
    Get (Instr.fill (fun j => some (j * 1, 1)) ((Array.range (1 * 1)).map ((#[(.string ⟨#[]⟩)] : Array Value)[· % 1]!)) [(0, strVal v)]) fun cs => NewSl cs 9 1 H fun x163 H =>
    Append 9 1 16 #[(.string ⟨#[]⟩)] ((getE k (E.map Ent.pair)).getD (.slice none 0 0)) x163 H fun x164 H =>
    ExecV Tryz.prog (do Instr.mapUpdate 82 (.map (some m)) (strVal k) x164; pure undef) H fun _ H => K H := by
  rw [fill1 (v := strVal v) rfl, Q6, NewSl]
  have f1 : Frm [] H (H.push (.cells #[strVal v] 9 (0, 0))) := Frm.push _ _ _
  have hx1 : cellH (H.push (.cells #[strVal v] 9 (0, 0))) ⟨H.size, 0, none⟩ = some (strVal v) := by rw [cellH_of (push_same _ _)]; rfl
  have z1 : (H.push (.cells #[strVal v] 9 (0, 0))).size = H.size + 1 := by simp
  generalize H.push (.cells #[strVal v] 9 (0, 0)) = H1 at *
  have hE1 : Ents H1 m N E := hE.frm f1 (by simp)
  have hL1 : Left H1 E st n sb := hL.frm f1 (by simp)
  have hne : ∀ e ∈ E, e.b ≠ m := fun e he hh => by
    obtain ⟨cs, hcs, _⟩ := hE.strs e he
    obtain ⟨es, c, hm0, _⟩ := hE.map
    rw [hh, hm0] at hcs
    cases hcs
  have hblk : ∀ e ∈ E, e.b < H.size := fun e he => by
    obtain ⟨cs, hcs, _⟩ := hE.strs e he
    exact lt_of_some hcs
  have hml : m < H.size := by
    obtain ⟨es, c, hm0, _⟩ := hE.map
    exact lt_of_some hm0
  cases hg : getE k (E.map Ent.pair) with
  | none =>
    obtain ⟨hs1, hs2⟩ := getE_none hg
    simp only [Option.getD_none]
    refine append_str_nil hx1 fun H2 c' f2 hs z2 => ?_
    have hE2 := hE1.frm f2 (by simp)
    obtain ⟨H3, hm3, f3, z3, hex⟩ := update_of und106 (k := k) (v := .slice (some ⟨H1.size, 0, none⟩) 1 c') hE2.map
    rw [hex]
    have hsb : ∀ b, sb = some b → b ∉ ([m] : List Nat) ∨ True := fun _ _ => .inr trivial
    refine hK (E ++ [⟨k, H1.size, 0, c', [v]⟩]) _ ⟨?_, fun e he => ?_, ?_, ?_⟩ ?_ ?_ ?_ ?_
    · rw [hs2] at hm3; simpa [Ent.pair] using hm3
    · rcases List.mem_append.1 he with he | he
      · exact (hE2.strs e he).frm f3 (by simpa using hne e he)
      · rw [List.mem_singleton] at he
        subst he
        exact hs.frm f3 (by rw [List.mem_singleton]; omega)
    · rw [List.pairwise_append]
      refine ⟨hE.apart, by simp, fun e he e' he' => ?_⟩
      rw [List.mem_singleton] at he'
      subst he'
      exact .inl (by have := hblk e he; show e.b ≠ H1.size; omega)
    · intro e he
      rcases List.mem_append.1 he with he | he
      · exact Nat.le_succ_of_le (hE.few e he)
      · rw [List.mem_singleton] at he; subst he; simp
    · rw [hs1]; simp [Ent.hd]
    · obtain ⟨a, h1, h2⟩ := hL1.frm f2 (by simp)
      refine ⟨a, h1, ?_⟩
      rcases h2 with h2 | ⟨b, o, h2, h3, ⟨cells, h4, h5⟩, h6⟩
      · exact .inl h2
      · refine .inr ⟨b, o, h2, h3, ⟨cells, f3.get h4 (fun hmm => ?_), h5⟩, fun e he => ?_⟩
        · rw [List.mem_singleton] at hmm
          obtain ⟨es, c, hm0, _⟩ := hE2.map
          rw [hmm, hm0] at h4
          cases h4
        · rcases List.mem_append.1 he with he | he
          · exact h6 e he
          · rw [List.mem_singleton] at he
            subst he
            have := hblt b h2
            exact .inl (by show H1.size ≠ b; omega)
    · exact ((f1.mono (by simp)).trans (f2.mono (by simp))).trans (f3.mono (by simp [Ents.blks]))
    · intro x hx
      simp only [Ents.blks, List.map_append, List.mem_cons, List.mem_append, List.map_cons, List.map_nil, List.not_mem_nil, or_false] at hx ⊢
      rcases hx with h | h | h
      · exact .inl (.inl h)
      · exact .inl (.inr h)
      · exact .inr (by show H.size ≤ x; rw [h]; show H.size ≤ H1.size; omega)
  | some u =>
    obtain ⟨A, e, B, rfl, rfl, rfl, hs1, hs2⟩ := getE_some hg
    simp only [Option.getD_some, Ent.pair]
    have hse := hE1.strs e (by simp)
    have hother : ∀ y ∈ A ++ B, y.off e := pairwise_mid (fun h => h.symm) hE.apart
    have hfew := hE.few e (by simp)
    have hmemAB : ∀ y, y ∈ A ++ B → y ∈ A ++ e :: B := fun y hy => by
      rcases List.mem_append.1 hy with h | h <;> simp [h]
    refine append_str hse hx1 (by omega) (fun H2 cells hc1 hc2 f2 z2 hlt hs => ?_) (fun H2 c' f2 hs z2 => ?_)
    · have hmap2 := hE1.map.frm f2 (by simpa using (hne e (by simp)).symm)
      obtain ⟨H3, hm3, f3, z3, hex⟩ := update_of und106 (k := e.key) (v := .slice (some ⟨e.b, e.o, none⟩) (e.vs.length + 1) e.c) hmap2
      rw [hex]
      refine hK (A ++ ⟨e.key, e.b, e.o, e.c, e.vs ++ [v]⟩ :: B) _ ⟨?_, fun y hy => ?_, ?_, ?_⟩ ?_ ?_ ?_ ?_
      · rw [hs2] at hm3; simpa [Ent.pair] using hm3
      · rcases List.mem_append.1 hy with hy | hy
        · have hy' := hmemAB y (by simp [hy])
          have ho := hother y (by simp [hy])
          refine ((hE1.strs y hy').keep hc1 hc2 f2 ?_).frm f3 (by simpa using hne y hy')
          rcases ho with h | h | h
          · exact .inl h
          · exact .inr (.inr (by omega))
          · exact .inr (.inl (by omega))
        · rcases List.mem_cons.1 hy with rfl | hy
          · exact hs.frm f3 (by simpa using hne e (by simp))
          · have hy' := hmemAB y (by simp [hy])
            have ho := hother y (by simp [hy])
            refine ((hE1.strs y hy').keep hc1 hc2 f2 ?_).frm f3 (by simpa using hne y hy')
            rcases ho with h | h | h
            · exact .inl h
            · exact .inr (.inr (by omega))
            · exact .inr (.inl (by omega))
      · exact pairwise_put (fun h => h.symm) hE.apart hother
      · intro y hy
        rcases List.mem_append.1 hy with hy | hy
        · exact Nat.le_succ_of_le (hE.few y (by simp [hy]))
        · rcases List.mem_cons.1 hy with rfl | hy
          · simpa using hfew
          · exact Nat.le_succ_of_le (hE.few y (by simp [hy]))
      · rw [hs1]; simp [Ent.hd]
      · obtain ⟨a, h1, h2⟩ := hL1
        refine ⟨a, h1, ?_⟩
        rcases h2 with h2 | ⟨b, o, h2, h3, ⟨cs, h4, h5⟩, h6⟩
        · exact .inl h2
        · have hbm : b ∉ [m] := fun hmm => by
            rw [List.mem_singleton] at hmm
            obtain ⟨es, c, hm0, _⟩ := hE1.map
            rw [hmm, hm0] at h4
            cases h4
          refine .inr ⟨b, o, h2, h3, ?_, fun y hy => ?_⟩
          · by_cases hbe : b = e.b
            · subst hbe
              rw [hc1] at h4; cases h4
              exact ⟨_, f3.get hc2 hbm, by simpa using h5⟩
            · exact ⟨cs, f3.get (f2.get h4 (by simpa using hbe)) hbm, h5⟩
          · rcases List.mem_append.1 hy with hy | hy
            · exact h6 y (by simp [hy])
            · rcases List.mem_cons.1 hy with rfl | hy
              · exact h6 e (by simp)
              · exact h6 y (by simp [hy])
      · exact ((f1.mono (by simp)).trans (f2.mono (by simp [Ents.blks]))).trans (f3.mono (by simp [Ents.blks]))
      · intro x hx
        simp only [Ents.blks, List.map_append, List.mem_cons, List.mem_append, List.map_cons] at hx ⊢
        exact .inl hx
    · have hE2 := hE1.frm f2 (by simp)
      obtain ⟨H3, hm3, f3, z3, hex⟩ := update_of und106 (k := e.key) (v := .slice (some ⟨H1.size, 0, none⟩) (e.vs.length + 1) c') hE2.map
      rw [hex]
      have hnew : ∀ y ∈ A ++ B, y.off ⟨e.key, H1.size, 0, c', e.vs ++ [v]⟩ := fun y hy => .inl (by have := hblk y (hmemAB y hy); show y.b ≠ H1.size; omega)
      refine hK (A ++ ⟨e.key, H1.size, 0, c', e.vs ++ [v]⟩ :: B) _ ⟨?_, fun y hy => ?_, ?_, ?_⟩ ?_ ?_ ?_ ?_
      · rw [hs2] at hm3; simpa [Ent.pair] using hm3
      · rcases List.mem_append.1 hy with hy | hy
        · have hy' := hmemAB y (by simp [hy])
          exact (hE2.strs y hy').frm f3 (by simpa using hne y hy')
        · rcases List.mem_cons.1 hy with rfl | hy
          · exact hs.frm f3 (by rw [List.mem_singleton]; omega)
          · have hy' := hmemAB y (by simp [hy])
            exact (hE2.strs y hy').frm f3 (by simpa using hne y hy')
      · exact pairwise_put (fun h => h.symm) hE.apart hnew
      · intro y hy
        rcases List.mem_append.1 hy with hy | hy
        · exact Nat.le_succ_of_le (hE.few y (by simp [hy]))
        · rcases List.mem_cons.1 hy with rfl | hy
          · simpa using hfew
          · exact Nat.le_succ_of_le (hE.few y (by simp [hy]))
      · rw [hs1]; simp [Ent.hd]
      · obtain ⟨a, h1, h2⟩ := hL1.frm f2 (by simp)
        refine ⟨a, h1, ?_⟩
        rcases h2 with h2 | ⟨b, o, h2, h3, ⟨cs, h4, h5⟩, h6⟩
        · exact .inl h2
        · refine .inr ⟨b, o, h2, h3, ⟨cs, f3.get h4 (fun hmm => ?_), h5⟩, fun y hy => ?_⟩
          · rw [List.mem_singleton] at hmm
            obtain ⟨es, c, hm0, _⟩ := hE2.map
            rw [hmm, hm0] at h4
            cases h4
          · rcases List.mem_append.1 hy with hy | hy
            · exact h6 y (by simp [hy])
            · rcases List.mem_cons.1 hy with rfl | hy
              · have := hblt b h2
                exact .inl (by show H1.size ≠ b; omega)
              · exact h6 y (by simp [hy])
      · exact ((f1.mono (by simp)).trans (f2.mono (by simp))).trans (f3.mono (by simp [Ents.blks]))
      · intro x hx
        simp only [Ents.blks, List.map_append, List.mem_cons, List.mem_append, List.map_cons] at hx ⊢
        rcases hx with h | h | h | h
        · exact .inl (.inl h)
        · exact .inl (.inr (.inl h))
        · exact .inr (by show H.size ≤ x; rw [h]; show H.size ≤ H1.size; omega)
        · exact .inl (.inr (.inr (.inr h)))
end Go.Cps
