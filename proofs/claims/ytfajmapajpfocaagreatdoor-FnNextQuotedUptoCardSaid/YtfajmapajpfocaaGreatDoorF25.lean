/-
  A part of the proof: Slices of structs and of strings, as they read: each element's cells; owned ones, and one element more. Strings, headers, parts and fields as elements of slices; a copy of a slice of strings. A range over a header's map: the entries come, each once, in some order. What the bodies of some functions of the program come to, at heap level, each proved of the program itself. impl.headers: the entries of a header's map, each with a copy of its values, sorted by their keys. What the bodies of some functions of the program come to, at heap level, each proved of the program itself.
  Conditions: each contract's own.
-/
import Derived.Maps.RangeRun
import Derived.Test.YtfajmapajpfocaaGreatDoorF4
import Derived.Test.YtfajmapajpfocaaGreatDoorF21
import Derived.Test.YtfajmapajpfocaaGreatDoorF23
set_option linter.all false
namespace Go.Cps
open Go Go.Proofs
def SlV {α : Type} (w : Nat) (R : List Nat → Heap → α → List Value → Prop) (D : List Nat) (H : Heap) (v : Value) (l : List α) : Prop :=
  (∃ b o c, v = .slice (some ⟨b, o, none⟩) l.length c ∧ l.length ≤ c ∧ b ∉ D ∧ b < H.size ∧ ∀ j (hj : j < l.length), ∃ vs : List Value, vs.length = w ∧ R D H l[j] vs ∧ ∀ i, i < w → cellH H ⟨b, o + (j * w + i), none⟩ = vs[i]?) ∨ (∃ a, v = .slice a 0 0 ∧ l = [])
structure RelOk {α : Type} (R : List Nat → Heap → α → List Value → Prop) : Prop where
  frm : ∀ {D X H H' a vs}, R D H a vs → Frm X H H' → (∀ x ∈ X, x ∈ D ∨ H.size ≤ x) → R D H' a vs
  new : ∀ {D H a vs g}, R D H a vs → H.size ≤ g → R (g :: D) H a vs
  sub : ∀ {D D' H a vs}, (∀ x ∈ D', x ∈ D) → R D H a vs → R D' H a vs
  one : ∀ {D H a vs}, R D H a vs → ∀ v ∈ vs, isOne v = true
section
variable {α : Type} {w : Nat} {R : List Nat → Heap → α → List Value → Prop} {D : List Nat} {H : Heap} {v : Value} {l : List α}
theorem SlV.len (h : SlV w R D H v l) : lenV v = some (.int .i64 l.length) := by
  rcases h with ⟨b, o, c, rfl, _⟩ | ⟨a', rfl, rfl⟩ <;> rfl
theorem SlV.isOne (h : SlV w R D H v l) : isOne v = true := by
  rcases h with ⟨b, o, c, rfl, _⟩ | ⟨a', rfl, rfl⟩ <;> rfl
theorem SlV.frm (hR : RelOk R) {H' : Heap} {X : List Nat} (h : SlV w R D H v l) (f : Frm X H H') (hX : ∀ x ∈ X, x ∈ D ∨ H.size ≤ x) : SlV w R D H' v l := by
  rcases h with ⟨b, o, c, rfl, h1, h2, h3, h4⟩ | h
  · refine .inl ⟨b, o, c, rfl, h1, h2, Nat.lt_of_lt_of_le h3 f.size, fun j hj => ?_⟩
    obtain ⟨vs, g1, g2, g3⟩ := h4 j hj
    refine ⟨vs, g1, hR.frm g2 f hX, fun i hi => ?_⟩
    rw [← g3 i hi]
    have : H'[b]? = H[b]? := f.same b h3 (fun hm => by
      rcases hX b hm with h | h
      · exact h2 h
      · omega)
    simp only [cellH, this]
  · exact .inr h
theorem SlV.new (hR : RelOk R) {g : Nat} (h : SlV w R D H v l) (hg : H.size ≤ g) : SlV w R (g :: D) H v l := by
  rcases h with ⟨b, o, c, rfl, h1, h2, h3, h4⟩ | h
  · refine .inl ⟨b, o, c, rfl, h1, ?_, h3, fun j hj => ?_⟩
    · intro hm
      rcases List.mem_cons.1 hm with rfl | hm
      · omega
      · exact h2 hm
    · obtain ⟨vs, g1, g2, g3⟩ := h4 j hj
      exact ⟨vs, g1, hR.new g2 hg, g3⟩
  · exact .inr h
theorem SlV.sub (hR : RelOk R) {D' : List Nat} (hD : ∀ x ∈ D', x ∈ D) (h : SlV w R D H v l) : SlV w R D' H v l := by
  rcases h with ⟨b, o, c, rfl, h1, h2, h3, h4⟩ | h
  · refine .inl ⟨b, o, c, rfl, h1, fun hm => h2 (hD b hm), h3, fun j hj => ?_⟩
    obtain ⟨vs, g1, g2, g3⟩ := h4 j hj
    exact ⟨vs, g1, hR.sub hD g2, g3⟩
  · exact .inr h
theorem cellsH_of {b o : Nat} {vs : List Value} (h : ∀ i, i < vs.length → cellH H ⟨b, o + i, none⟩ = vs[i]?) : cellsH H ⟨b, o, none⟩ 0 vs.length = some vs :=
  (cellsH_getElem _ _ _).2 ⟨rfl, fun j hj => by rw [Nat.zero_add]; exact h j hj⟩
theorem SlV.elem (h : SlV w R D H v l) {j : Nat} (hj : j < l.length) : ∃ a vs, (∀ k : IntKind, elemAddrV w v (.int k j) = some (.pointer (some a))) ∧ loadNV w (.pointer (some a)) H = some (.agg vs.toArray) ∧ vs.length = w ∧ R D H l[j] vs ∧ (∀ i, i < w → cellH H (a.add i) = vs[i]?) := by
  rcases h with ⟨b, o, c, rfl, h1, h2, h3, h4⟩ | ⟨_, _, rfl⟩
  · obtain ⟨vs, g1, g2, g3⟩ := h4 j hj
    have e : ∀ i, i < w → cellH H ⟨b, o + j * w + i, none⟩ = vs[i]? := fun i hi => by rw [Nat.add_assoc]; exact g3 i hi
    refine ⟨⟨b, o + j * w, none⟩, vs, fun k => ?_, ?_, g1, g2, fun i hi => ?_⟩
    · have := elemAddr_of (b := b) (o := o) (n := l.length) (c := c) (size := w) (k := k) (i := (j : Int)) (by omega) (by omega)
      simpa using this
    · have hc := cellsH_of (H := H) (b := b) (o := o + j * w) (vs := vs) (fun i hi => e i (by omega))
      rw [g1] at hc
      simp only [loadNV, hc, Option.map_some]
    · rw [Q1]; exact e i hi
  · simp at hj
end
def OwnS {α : Type} (w T : Nat) (R : List Nat → Heap → α → List Value → Prop) (D : List Nat) (H : Heap) (k : Option Nat) (v : Value) (l : List α) : Prop := match k with
  | none => v = .slice none 0 0 ∧ l = []
  | some g => ∃ (cells : Array Value) (c : Nat), v = .slice (some ⟨g, 0, none⟩) l.length c ∧ H[g]? = some (.cells cells T (0, 0)) ∧ cells.size = c * w ∧ l.length ≤ c ∧ g ∉ D ∧ ∀ j (hj : j < l.length), ∃ vs : List Value, vs.length = w ∧ R (g :: D) H l[j] vs ∧ ∀ i, i < w → cells[j * w + i]? = vs[i]?
section
variable {α : Type} {w T : Nat} {R : List Nat → Heap → α → List Value → Prop} {D : List Nat} {H : Heap} {v : Value} {l : List α} {k : Option Nat}
theorem OwnS.slV (hR : RelOk R) (h : OwnS w T R D H k v l) : SlV w R D H v l := by
  cases k with
  | none => exact .inr ⟨none, h⟩
  | some g =>
    obtain ⟨cells, c, rfl, hg, hc, hl, hD, he⟩ := h
    refine .inl ⟨g, 0, c, rfl, hl, hD, lt_of_some hg, fun j hj => ?_⟩
    obtain ⟨vs, g1, g2, g3⟩ := he j hj
    refine ⟨vs, g1, hR.sub (fun x hx => by simp [hx]) g2, fun i hi => ?_⟩
    rw [cellH_of hg, Nat.zero_add]
    exact g3 i hi
theorem OwnS.frm (hR : RelOk R) {H' : Heap} {X : List Nat} (h : OwnS w T R D H k v l) (f : Frm X H H') (hX : ∀ x ∈ X, (x ∈ D ∨ H.size ≤ x) ∧ k ≠ some x) : OwnS w T R D H' k v l := by
  cases k with
  | none => exact h
  | some g =>
    obtain ⟨cells, c, rfl, hg, hc, hl, hD, he⟩ := h
    refine ⟨cells, c, rfl, f.get hg (fun hm => (hX g hm).2 rfl), hc, hl, hD, fun j hj => ?_⟩
    obtain ⟨vs, g1, g2, g3⟩ := he j hj
    exact ⟨vs, g1, hR.frm g2 f (fun x hx => by
      rcases (hX x hx).1 with h | h
      · exact .inl (by simp [h])
      · exact .inr h), g3⟩
theorem OwnS.sub (hR : RelOk R) {D' : List Nat} (hD : ∀ x ∈ D', x ∈ D) (h : OwnS w T R D H k v l) : OwnS w T R D' H k v l := by
  cases k with
  | none => exact h
  | some g =>
    obtain ⟨cells, c, rfl, hg, hc, hl, hgD, he⟩ := h
    refine ⟨cells, c, rfl, hg, hc, hl, fun hm => hgD (hD g hm), fun j hj => ?_⟩
    obtain ⟨vs, g1, g2, g3⟩ := he j hj
    exact ⟨vs, g1, hR.sub (fun x hx => by
      rcases List.mem_cons.1 hx with rfl | hx
      · simp
      · simp [hD x hx]) g2, g3⟩
theorem OwnS.lt (h : OwnS w T R D H k v l) : ∀ g, k = some g → g < H.size ∧ g ∉ D := by
  rintro g rfl
  obtain ⟨cells, c, rfl, hg, hc, hl, hD, he⟩ := h
  exact ⟨lt_of_some hg, hD⟩
theorem OwnS.len (h : OwnS w T R D H k v l) : lenV v = some (.int .i64 l.length) := by
  cases k with
  | none => obtain ⟨rfl, rfl⟩ := h; rfl
  | some g => obtain ⟨cells, c, rfl, _⟩ := h; rfl
theorem OwnS.isOne (h : OwnS w T R D H k v l) : isOne v = true := by
  cases k with
  | none => obtain ⟨rfl, rfl⟩ := h; rfl
  | some g => obtain ⟨cells, c, rfl, _⟩ := h; rfl
theorem putAt_old (cs : Array Value) (o : Nat) (vs : List Value) (i : Nat) (hi : i < o) (hle : o + vs.length ≤ cs.size) : (putAt cs o vs)[i]? = cs[i]? := by
  rw [putAt_get _ _ _ _ hle, if_neg (by omega)]
theorem putAt_new (cs : Array Value) (o : Nat) (vs : List Value) (i : Nat) (hi : i < vs.length) (hle : o + vs.length ≤ cs.size) : (putAt cs o vs)[o + i]? = vs[i]? := by
  rw [putAt_get _ _ _ _ hle, if_pos (by omega)]
  congr 1
  omega
theorem append_one (hR : RelOk R) {bytes : Nat} {zero : Array Value} {xb xc : Nat} {xs : List Value} {a : α} {K : Value → Heap → Prop} (h : OwnS w T R D H k v l) (hx : ∀ i, i < w → cellH H ⟨xb, i, none⟩ = xs[i]?) (hxl : xs.length = w) (ha : R (k.toList ++ D) H a xs)
    (hz : zero.size = w) (hl : l.length < 2 ^ 36) (hb : bytes ≤ 64) (hD : ∀ x ∈ D, x < H.size) (hw : 0 < w ∧ w ≤ 64)
    (hK : ∀ k' v' H', OwnS w T R D H' k' v' (l ++ [a]) → Frm k.toList H H' → (k' = k ∨ ∃ g, k' = some g ∧ H.size ≤ g) → K v' H') :
    Append T w bytes zero v (.slice (some ⟨xb, 0, none⟩) 1 xc) H K := by
  have hxe : elemsV w 1 (.slice (some ⟨xb, 0, none⟩) 1 xc) H = some xs := by
    simp only [elemsV, Nat.one_mul]
    have := cellsH_of (H := H) (b := xb) (o := 0) (vs := xs) (fun i hi => by rw [Nat.zero_add]; exact hx i (by omega))
    rw [hxl] at this
    exact this
  cases k with
  | none =>
    obtain ⟨rfl, rfl⟩ := h
    refine ⟨_, _, _, 1, _, rfl, rfl, hxe, .inr ⟨by omega, by omega, by rw [nextcap0]; omega, [], rfl, fun c hc => ?_⟩⟩
    have f1 : Frm [] H (H.push (.cells (([] : List Value).toArray ++ xs.toArray ++ zeros zero (c - (0 + 1))) T (0, 0))) := Frm.push _ _ _
    have hp := push_same H (.cells (([] : List Value).toArray ++ xs.toArray ++ zeros zero (c - (0 + 1))) T (0, 0))
    refine hK (some H.size) _ _ ⟨_, c, rfl, hp, ?_, by simpa using hc, fun hm => by have := hD _ hm; omega, fun j hj => ?_⟩ f1 (.inr ⟨_, rfl, Nat.le_refl _⟩)
    · simp only [Array.size_append, List.size_toArray, List.length_nil, hxl, zeros, Builtin.zeroCells]
      have : (c - 1) * w + w = c * w := by
        rw [Nat.sub_mul, Nat.one_mul]
        have : w ≤ c * w := Nat.le_mul_of_pos_left w (by omega)
        omega
      simp [hz]; omega
    · simp at hj
      subst hj
      refine ⟨xs, hxl, hR.frm (hR.new (by simpa using ha) (Nat.le_refl _)) f1 (by simp), fun i hi => ?_⟩
      rw [Array.append_assoc, Array.getElem?_append_right (by simp), Array.getElem?_append_left (by simp; omega)]
      simp
  | some g =>
    obtain ⟨cells, c, rfl, hg, hc, hle, hgD, he⟩ := h
    refine ⟨_, _, _, 1, _, rfl, rfl, hxe, ?_⟩
    by_cases hroom : l.length + 1 ≤ c
    · left
      have hsz : l.length * w + xs.length ≤ cells.size := by
        rw [hc, hxl]
        have := Nat.mul_le_mul_right w hroom
        rw [Nat.add_mul, Nat.one_mul] at this
        exact this
      refine ⟨hroom, ?_⟩
      have hst := stores_upd xs H g (l.length * w) 0 cells T hg (by simpa using hsz) (hR.one ha)
      simp only [storeRow, Q1, Nat.zero_add, hst, Q6, Nat.add_zero]
      have f1 : Frm [g] H (upd H g (.cells (putAt cells (l.length * w) xs) T (0, 0))) := Frm.upd _ (by simp)
      have hfr : ∀ {b ys}, R (g :: D) H b ys → R (g :: D) (upd H g (.cells (putAt cells (l.length * w) xs) T (0, 0))) b ys := fun hb => hR.frm hb f1 (fun x hx => by rw [List.mem_singleton] at hx; exact .inl (by simp [hx]))
      refine hK (some g) _ _ ⟨putAt cells (l.length * w) xs, c, by simp, upd_same (lt_of_some hg), by rw [putAt_size, hc], by simpa using hroom, hgD, fun j hj => ?_⟩ f1 (.inl rfl)
      simp only [List.length_append, List.length_singleton] at hj
      by_cases hjl : j < l.length
      · obtain ⟨vs, g1, g2, g3⟩ := he j hjl
        refine ⟨vs, g1, ?_, fun i hi => ?_⟩
        · rw [List.getElem_append_left hjl]; exact hfr g2
        · rw [putAt_old _ _ _ _ ?_ hsz]
          · exact g3 i hi
          · have : (j + 1) * w ≤ l.length * w := Nat.mul_le_mul_right w hjl
            rw [Nat.add_mul, Nat.one_mul] at this
            omega
      · have hj' : j = l.length := by omega
        subst hj'
        refine ⟨xs, hxl, ?_, fun i hi => ?_⟩
        · rw [List.getElem_append_right (Nat.le_refl _)]; simpa using hfr (by simpa using ha)
        · exact putAt_new _ _ _ _ (by omega) hsz
    · right
      have hlt : c < l.length + 1 := by omega
      have hcap := nextslicecap_le hlt
      have hsz0 : cells.size = l.length * w := by rw [hc]; congr 1; omega
      refine ⟨hlt, by omega, ?_, cells.toList, ?_, fun c' hc' => ?_⟩
      · have h1 : Builtin.nextslicecap (l.length + 1) c * bytes ≤ Builtin.nextslicecap (l.length + 1) c * 64 := Nat.mul_le_mul_left _ hb
        omega
      · simp only [elemsV]
        rw [← hsz0]
        exact cellsH_all hg
      · have f1 : Frm [] H (H.push (.cells (cells.toList.toArray ++ xs.toArray ++ zeros zero (c' - (l.length + 1))) T (0, 0))) := Frm.push _ _ _
        have hp := push_same H (.cells (cells.toList.toArray ++ xs.toArray ++ zeros zero (c' - (l.length + 1))) T (0, 0))
        have hnew : ∀ {b ys}, R (g :: D) H b ys → R (H.size :: D) (H.push (.cells (cells.toList.toArray ++ xs.toArray ++ zeros zero (c' - (l.length + 1))) T (0, 0))) b ys := fun hb => hR.frm (hR.new (hR.sub (fun x hx => by simp [hx]) hb) (Nat.le_refl _)) f1 (by simp)
        refine hK (some H.size) _ _ ⟨_, c', by simp, hp, ?_, by simpa using hc', fun hm => by have := hD _ hm; omega, fun j hj => ?_⟩ (f1.mono (by simp)) (.inr ⟨_, rfl, Nat.le_refl _⟩)
        · simp only [Array.size_append, List.size_toArray, Array.length_toList, hxl, zeros, Builtin.zeroCells, hsz0]
          have h1 : (c' - (l.length + 1)) * w + (l.length + 1) * w = c' * w := by
            rw [← Nat.add_mul]; congr 1; omega
          have h2 : (l.length + 1) * w = l.length * w + w := by rw [Nat.add_mul, Nat.one_mul]
          simp [hz]; omega
        · simp only [List.length_append, List.length_singleton] at hj
          by_cases hjl : j < l.length
          · obtain ⟨vs, g1, g2, g3⟩ := he j hjl
            refine ⟨vs, g1, ?_, fun i hi => ?_⟩
            · rw [List.getElem_append_left hjl]; exact hnew g2
            · have hlt2 : j * w + i < cells.size := by
                have : (j + 1) * w ≤ l.length * w := Nat.mul_le_mul_right w hjl
                rw [Nat.add_mul, Nat.one_mul] at this
                omega
              rw [Array.append_assoc, Array.getElem?_append_left (by simpa using hlt2), ← g3 i hi]
          · have hj' : j = l.length := by omega
            subst hj'
            refine ⟨xs, hxl, ?_, fun i hi => ?_⟩
            · rw [List.getElem_append_right (Nat.le_refl _)]; simpa using hnew (by simpa using ha)
            · rw [Array.append_assoc, Array.getElem?_append_right (by simp; omega), Array.getElem?_append_left (by simp; omega)]
              simp [hsz0]
end
end Go.Cps
namespace Go.Cps
open Go Go.Proofs
def BytV (D : List Nat) (H : Heap) (v : Value) (l : List UInt8) : Prop := IsBytes H v l ∧ (l ≠ [] → ∀ b, blk v = some b → b ∉ D ∧ b < H.size)
theorem BytV.frm {D X : List Nat} {H H' : Heap} {v : Value} {l : List UInt8} (h : BytV D H v l) (f : Frm X H H') (hX : ∀ x ∈ X, x ∈ D ∨ H.size ≤ x) : BytV D H' v l :=
  ⟨h.1.frm' f (fun h0 b hb hm => by
    obtain ⟨h1, h2⟩ := h.2 h0 b hb
    rcases hX b hm with h | h
    · exact h1 h
    · omega), fun h0 b hb => ⟨(h.2 h0 b hb).1, Nat.lt_of_lt_of_le (h.2 h0 b hb).2 f.size⟩⟩
theorem BytV.new {D : List Nat} {H : Heap} {v : Value} {l : List UInt8} {g : Nat} (h : BytV D H v l) (hg : H.size ≤ g) : BytV (g :: D) H v l :=
  ⟨h.1, fun h0 b hb => by
    obtain ⟨h1, h2⟩ := h.2 h0 b hb
    refine ⟨fun hm => ?_, h2⟩
    rcases List.mem_cons.1 hm with rfl | hm
    · omega
    · exact h1 hm⟩
theorem BytV.sub {D D' : List Nat} {H : Heap} {v : Value} {l : List UInt8} (h : BytV D H v l) (hD : ∀ x ∈ D', x ∈ D) : BytV D' H v l := ⟨h.1, fun h0 b hb => ⟨fun hm => (h.2 h0 b hb).1 (hD b hm), (h.2 h0 b hb).2⟩⟩
theorem BytV.isOne {D : List Nat} {H : Heap} {v : Value} {l : List UInt8} (h : BytV D H v l) : isOne v = true := by
  rcases h.1 with ⟨b, o, c, rfl, _⟩ | ⟨a', rfl, _⟩ <;> rfl
theorem OwnB.bytV {D : List Nat} {H : Heap} {k : Option Nat} {v : Value} {l : List UInt8} (h : OwnB H k v l) (hk : ∀ g, k = some g → g ∉ D) : BytV D H v l :=
  ⟨h.bytes, fun _ b hb => by
    rw [h.blk] at hb
    refine ⟨hk b hb, ?_⟩
    subst hb
    obtain ⟨cells, _, hg, _⟩ := h
    exact lt_of_some hg⟩
def StrR (_ : List Nat) (_ : Heap) (s : List UInt8) (vs : List Value) : Prop := vs = [strVal s]
theorem Qy : RelOk StrR := ⟨fun h _ _ => h, fun h _ => h, fun _ h => h, fun h v hv => by rw [h] at hv; simp at hv; subst hv; rfl⟩
abbrev StrsV := SlV 1 StrR
abbrev Hdr := List UInt8 × List (List UInt8)
def HeadR (D : List Nat) (H : Heap) (p : Hdr) (vs : List Value) : Prop := ∃ y, vs = [strVal p.1, y] ∧ StrsV D H y p.2
theorem Qx : RelOk HeadR where
  frm := fun ⟨y, h, h2⟩ f hX => ⟨y, h, h2.frm Qy f hX⟩
  new := fun ⟨y, h, h2⟩ hg => ⟨y, h, h2.new Qy hg⟩
  sub := fun hD ⟨y, h, h2⟩ => ⟨y, h, h2.sub Qy hD⟩
  one := fun ⟨y, h, h2⟩ v hv => by
    subst h
    simp only [List.mem_cons, List.not_mem_nil, or_false] at hv
    rcases hv with rfl | rfl
    · rfl
    · exact h2.isOne
abbrev HeadsV := SlV 2 HeadR
abbrev PartL := List Hdr × List UInt8
def PartR (D : List Nat) (H : Heap) (p : PartL) (vs : List Value) : Prop := ∃ y z, vs = [y, z] ∧ HeadsV D H y p.1 ∧ BytV D H z p.2
theorem Qw : RelOk PartR where
  frm := fun ⟨y, z, h, h2, h3⟩ f hX => ⟨y, z, h, h2.frm Qx f hX, h3.frm f hX⟩
  new := fun ⟨y, z, h, h2, h3⟩ hg => ⟨y, z, h, h2.new Qx hg, h3.new hg⟩
  sub := fun hD ⟨y, z, h, h2, h3⟩ => ⟨y, z, h, h2.sub Qx hD, h3.sub hD⟩
  one := fun ⟨y, z, h, h2, h3⟩ v hv => by
    subst h
    simp only [List.mem_cons, List.not_mem_nil, or_false] at hv
    rcases hv with rfl | rfl
    · exact h2.isOne
    · exact h3.isOne
abbrev PartsV := SlV 2 PartR
theorem add_zero (a : Addr) : a.add 0 = a := by simp [Addr.add]
theorem strs_elem {D : List Nat} {H : Heap} {v : Value} {l : List (List UInt8)} (h : StrsV D H v l) {j : Nat} (hj : j < l.length) : ∃ a, (∀ k : IntKind, elemAddrV 1 v (.int k j) = some (.pointer (some a))) ∧ cellH H a = some (strVal l[j]) := by
  obtain ⟨a, vs, h1, _, h3, h4, h5⟩ := h.elem hj
  refine ⟨a, h1, ?_⟩
  have := h5 0 (by omega)
  rw [show vs = [strVal l[j]] from h4, add_zero] at this
  simpa using this
theorem strs_elems {D : List Nat} {H : Heap} {v : Value} {l : List (List UInt8)} (h : StrsV D H v l) : elemsV 1 l.length v H = some (l.map strVal) := by
  rcases h with ⟨b, o, c, rfl, h1, h2, h3, h4⟩ | ⟨a', rfl, rfl⟩
  · simp only [elemsV, Nat.mul_one]
    refine (cellsH_getElem _ _ _).2 ⟨by simp, fun j hj => ?_⟩
    obtain ⟨vs, _, g2, g3⟩ := h4 j hj
    have := g3 0 (by omega)
    rw [show vs = [strVal l[j]] from g2] at this
    rw [Nat.zero_add]
    simp only [Nat.mul_one, Nat.add_zero, List.getElem?_cons_zero] at this
    rw [this, List.getElem?_map, List.getElem?_eq_getElem hj]
    rfl
  · cases a' <;> rfl
theorem strs_count {D : List Nat} {H : Heap} {v : Value} {l : List (List UInt8)} (h : StrsV D H v l) : countV v = some l.length := by
  rcases h with ⟨b, o, c, rfl, _⟩ | ⟨a', rfl, rfl⟩ <;> rfl
theorem append_copy {D D' : List Nat} {H : Heap} {x : Value} {l : List (List UInt8)} {base : Option Addr} {K : Value → Heap → Prop} (hx : StrsV D H x l) (h0 : l ≠ []) (hl : l.length < 2 ^ 36) (hD : ∀ y ∈ D', y < H.size)
    (hK : ∀ g v H', OwnS 1 9 StrR D' H' (some g) v l → Frm [] H H' → g = H.size → H'.size = H.size + 1 → K v H') :
    Append 9 1 16 #[.string ⟨#[]⟩] (.slice base 0 0) x H K := by
  have hpos : 0 < l.length := List.length_pos_iff.2 h0
  refine ⟨_, _, _, l.length, _, rfl, strs_count hx, strs_elems hx, .inr ⟨by omega, by omega, by rw [nextcap0]; omega, [], ?_, fun c hc => ?_⟩⟩
  · cases base with
    | none => rfl
    | some a => simp [elemsV, cellsH]
  · rw [Nat.zero_add] at hc ⊢
    refine hK H.size _ _ ⟨_, c, rfl, push_same _ _, ?_, hc, fun hm => by have := hD _ hm; omega, fun j hj => ⟨[strVal l[j]], rfl, rfl, fun i hi => ?_⟩⟩ (Frm.push _ _ _) rfl (by simp)
    · simp [zeros, Builtin.zeroCells]; omega
    · have hi0 : i = 0 := by omega
      subst hi0
      rw [Array.append_assoc, Array.getElem?_append_right (by simp), Array.getElem?_append_left (by simp; omega)]
      simp [List.getElem?_eq_getElem hj]
end Go.Cps
namespace Go.Cps
open Go Go.Proofs
theorem range_map {T : TypeId} (hT : Tryz.prog.underlying T = some (.map 9 88)) {m : Nat} {es : Array MapEntry} {c : Nat} {H : Heap} {K : Value → Heap → Prop} (h : H[m]? = some (.map es c)) :
    ExecV Tryz.prog (Instr.range T (.map (some m))) H K = K (.pointer (some ⟨H.size, 0, none⟩)) (H.push (.mapIter (some m) c #[] c)) := by
  apply ExecV.eq'
  intro w hw
  subst hw
  refine ⟨{ w with heap := w.heap.push (.mapIter (some m) c #[] c) }, ?_, ⟨rfl, rfl, rfl⟩, rfl⟩
  have hgo : (getObj m).run Tryz.prog w = .ok (.map es c) w := by simp [getObj, Sem.run, h]
  simp only [Instr.range, Sem.run_bind, run_underlying' hT, Result.andThen_ok, hgo, Sem.run_pure]
  rfl
theorem setBlock_heap (w : World) (r : Nat) (o : Obj) : (Go.ChangeMaps.setBlock w r o).heap = upd w.heap r o := rfl
structure IterAt (H : Heap) (m r : Nat) (es : Array MapEntry) (c : Nat) (seen : Array Nat) : Prop where
  hm : H[m]? = some (.map es c)
  hr : H[r]? = some (.mapIter (some m) c seen c)
  nodup : (es.toList.map (·.born)).Nodup
  lt : ∀ e ∈ es.toList, e.born < c
theorem IterAt.frm {H H' : Heap} {m r : Nat} {es : Array MapEntry} {c : Nat} {seen : Array Nat} {X : List Nat} (h : IterAt H m r es c seen) (f : Frm X H H') (h1 : m ∉ X) (h2 : r ∉ X) : IterAt H' m r es c seen := ⟨f.get h.hm h1, f.get h.hr h2, h.nodup, h.lt⟩
theorem IterAt.ne {H : Heap} {m r : Nat} {es : Array MapEntry} {c : Nat} {seen : Array Nat} (h : IterAt H m r es c seen) : m ≠ r := by
  rintro rfl
  have h1 := h.hm
  rw [h.hr] at h1
  cases h1
theorem IterAt.step {H : Heap} {m r : Nat} {es : Array MapEntry} {c : Nat} {seen : Array Nat} (h : IterAt H m r es c seen) (b : Nat) : IterAt (upd H r (.mapIter (some m) c (seen.push b) c)) m r es c (seen.push b) :=
  ⟨by rw [upd_ne h.ne.symm]; exact h.hm, upd_same (lt_of_some h.hr), h.nodup, h.lt⟩
section
attribute [local irreducible] Sem.run
theorem next_map {P : Program} {H : Heap} {m r : Nat} {es : Array MapEntry} {c : Nat} {seen : Array Nat} {ty : TypeId} {K : Value → Heap → Prop} (h : IterAt H m r es c seen) (h0 : (leftOf es seen).size = 0 → K (.tuple #[.bool false]) H)
    (h1 : ∀ e ∈ (leftOf es seen).toList, K (.tuple #[.bool true, e.key, e.val]) (upd H r (.mapIter (some m) c (seen.push e.born) c))) :
    ExecV P (Instr.next (.pointer (some ⟨r, 0, none⟩)) false ty) H K := by
  intro w hw
  subst hw
  rcases run_next_at (P := P) w ty r m c c seen es c h.hr h.hm h.lt (Nat.le_refl _) with ⟨hz, hrun⟩ | ⟨e, he, w1, hw1, hrun⟩
  · rw [hrun]
    exact ⟨.refl w, h0 hz⟩
  · rw [hrun]
    have hs : Same w w1 ∧ w1.heap = w.heap := by rcases hw1 with rfl | rfl <;> exact ⟨⟨rfl, rfl, rfl⟩, rfl⟩
    refine ⟨⟨hs.1.os, hs.1.tape, hs.1.output⟩, ?_⟩
    rw [setBlock_heap, hs.2]
    exact h1 e he
theorem entry_map {P : Program} {H : Heap} {m r : Nat} {es : Array MapEntry} {c : Nat} {seen : Array Nat} {e : MapEntry} {K : Value → Heap → Prop} (h : IterAt H m r es c (seen.push e.born)) (he : e ∈ es.toList) :
    ExecV P (Instr.entry (.pointer (some ⟨r, 0, none⟩))) H K = K (.tuple #[e.key, e.val]) H :=
  ExecV.eq fun w hw => by
    subst hw
    exact run_entry_at w r m c seen es c e h.hr h.hm he h.nodup
end
theorem perm_out {f : MapEntry → Nat} : ∀ {L : List MapEntry} {e : MapEntry}, (L.map f).Nodup → e ∈ L → L.Perm (e :: L.filter fun x => f x != f e)
  | [], e, _, h => by cases h
  | x :: L, e, hn, h => by
    rw [List.map_cons, List.nodup_cons] at hn
    rcases List.mem_cons.1 h with rfl | h
    · have : L.filter (fun y => f y != f e) = L := List.filter_eq_self.2 fun y hy => by
        rw [bne_iff_ne]; intro e2; exact hn.1 (List.mem_map.2 ⟨y, hy, e2⟩)
      rw [List.filter_cons_of_neg (by simp), this]
    · have hx : f x ≠ f e := fun e2 => hn.1 (List.mem_map.2 ⟨e, h, e2.symm⟩)
      rw [List.filter_cons_of_pos (by simpa using hx)]
      exact ((perm_out hn.2 h).cons x).trans (List.Perm.swap _ _ _)
theorem left_push (es : Array MapEntry) (seen : Array Nat) (b : Nat) : (leftOf es (seen.push b)).toList = (leftOf es seen).toList.filter fun x => x.born != b := by
  unfold leftOf
  simp only [Array.toList_filter, List.filter_filter]
  congr 1
  funext x
  simp only [Array.contains_push]
  rw [Bool.eq_iff_iff]
  simp only [Bool.not_eq_true', Bool.or_eq_false_iff, beq_eq_false_iff_ne, Bool.and_eq_true, bne_iff_ne]
  constructor
  · rintro ⟨h1, h2⟩; exact ⟨h2, h1⟩
  · rintro ⟨h1, h2⟩; exact ⟨h2, h1⟩
theorem left_nodup {es : Array MapEntry} (seen : Array Nat) (h : (es.toList.map (·.born)).Nodup) : ((leftOf es seen).toList.map (·.born)).Nodup := by
  unfold leftOf
  rw [Array.toList_filter]
  exact h.sublist (List.Sublist.map _ List.filter_sublist)
theorem left_mem {es : Array MapEntry} {seen : Array Nat} {e : MapEntry} (h : e ∈ (leftOf es seen).toList) : e ∈ es.toList := by
  unfold leftOf at h
  rw [Array.toList_filter] at h
  exact (List.mem_filter.1 h).1
theorem left_start (es : Array MapEntry) : (leftOf es #[]).toList = es.toList := by
  unfold leftOf
  simp
theorem idx_born : ∀ {L : List Nat} (i : Nat) (h : i < L.length), L.Nodup → L.idxOf L[i] = i
  | x :: L, 0, _, _ => by simp
  | x :: L, i + 1, h, hn => by
    rw [List.nodup_cons] at hn
    have hi : i < L.length := by simpa using h
    have hne : (x == L[i]) = false := by
      rw [beq_eq_false_iff_ne]
      intro e
      exact hn.1 (e ▸ List.getElem_mem hi)
    rw [List.getElem_cons_succ, List.idxOf_cons, hne, cond_false, idx_born i hi hn.2]
def entHd (es : Array MapEntry) (E : List Ent) (e : MapEntry) : Hdr := match E[(es.toList.map (·.born)).idxOf e.born]? with | some t => t.hd | none => ([], [])
theorem ents_iter {H : Heap} {m N : Nat} {E : List Ent} (h : Ents H m N E) : ∃ (es : Array MapEntry) (c : Nat), H[m]? = some (.map es c) ∧ (es.toList.map (·.born)).Nodup ∧ (∀ e ∈ es.toList, e.born < c) ∧ es.toList.map (entHd es E) = E.map Ent.hd ∧ ∀ e ∈ es.toList, ∃ t ∈ E, entHd es E e = t.hd ∧ e.key = strVal t.key ∧ e.val = t.pair.2 := by
  obtain ⟨es, c, h1, h2, h3, h4⟩ := h.map
  have hlen : es.size = E.length := by
    have := congrArg List.length h2
    simpa [entsOf] using this
  have hat : ∀ (i : Nat) (hi : i < es.size), (es.toList.map (·.born)).idxOf es[i].born = i ∧ ∃ hE : i < E.length, es[i].key = strVal E[i].key ∧ es[i].val = E[i].pair.2 := by
    intro i hi
    have hE : i < E.length := by omega
    refine ⟨?_, hE, ?_⟩
    · have := idx_born (L := es.toList.map (·.born)) i (by simpa using hi) h3
      simpa using this
    · have : (es.toList.map (fun e => (e.key, e.val)))[i]? = ((E.map Ent.pair).map fun p => (strVal p.1, p.2))[i]? := by
        unfold entsOf at h2
        rw [h2]
      rw [List.getElem?_map, List.getElem?_map, List.getElem?_map, Array.getElem?_toList, Array.getElem?_eq_getElem hi, List.getElem?_eq_getElem hE] at this
      simp only [Option.map_some, Option.some.injEq, Prod.mk.injEq] at this
      exact ⟨this.1, this.2⟩
  refine ⟨es, c, h1, h3, h4, ?_, fun e he => ?_⟩
  · apply List.ext_getElem?
    intro i
    rw [List.getElem?_map, List.getElem?_map, Array.getElem?_toList]
    by_cases hi : i < es.size
    · obtain ⟨g1, hE, g2⟩ := hat i hi
      rw [Array.getElem?_eq_getElem hi, List.getElem?_eq_getElem hE]
      simp only [Option.map_some, entHd, g1, List.getElem?_eq_getElem hE]
    · rw [Array.getElem?_eq_none (by omega), List.getElem?_eq_none (by omega)]
      rfl
  · obtain ⟨i, hi, rfl⟩ := List.getElem_of_mem he
    simp only [Array.length_toList] at hi
    obtain ⟨g1, hE, g2, g3⟩ := hat i hi
    refine ⟨E[i], List.getElem_mem hE, ?_, by simpa using g2, by simpa using g3⟩
    simp only [entHd, Array.getElem_toList, g1, List.getElem?_eq_getElem hE]
theorem StrsAt.strsV {H : Heap} {b o c : Nat} {l : List (List UInt8)} {D : List Nat} (h : StrsAt H b o c l) (hb : b ∉ D) : StrsV D H (.slice (some ⟨b, o, none⟩) l.length c) l := by
  obtain ⟨cells, h1, h2, h3, h4⟩ := h
  refine .inl ⟨b, o, c, rfl, h2, hb, lt_of_some h1, fun j hj => ⟨[strVal l[j]], rfl, rfl, fun i hi => ?_⟩⟩
  have hi0 : i = 0 := by omega
  subst hi0
  rw [cellH_of h1, Nat.mul_one, Nat.add_zero, h4 j hj, List.getElem?_eq_getElem hj]
  rfl
end Go.Cps
namespace Go.Cps
open Go Go.Proofs
set_option maxRecDepth 100000
def c67 (a0 : Value) (H : Heap) (R : Value → Heap → Prop) : Prop :=
  Fld 0 a0 H fun x9 =>
  ExecV Tryz.prog (Instr.range 106 x9) H fun x10 H =>
  Loop [(.slice none 0 0)] H fun K1 vs2 H =>
  ExecV Tryz.prog (Instr.next x10 false 0) H fun x11 H =>
  Get (extractV x11 0) fun x12 =>
  Br x12 (
  ExecV Tryz.prog (Instr.entry x10) H fun x13 H =>
  Get (extractV x13 0) fun x14 =>
  Get (extractV x13 1) fun x15 =>
  Get (Instr.fill (fun j => some (j * 1, 1)) ((Array.range (0 * 1)).map ((#[(.string ⟨#[]⟩)] : Array Value)[· % 1]!)) []) fun cs => NewSl cs 9 0 H fun x18 H =>
  Append 9 1 16 #[(.string ⟨#[]⟩)] x18 x15 H fun x20 H =>
  Get ((fillV #[(0, 1), (1, 1)] #[(.string ⟨#[]⟩), (.slice none 0 0)] [(0, x14), (1, x20)]).map .agg) fun x21 =>
  Get (Instr.fill (fun j => some (j * 2, 2)) ((Array.range (1 * 2)).map ((#[(.string ⟨#[]⟩), (.slice none 0 0)] : Array Value)[· % 2]!)) [(0, x21)]) fun cs => NewSl cs 90 1 H fun x22 H =>
  Append 90 2 40 #[(.string ⟨#[]⟩), (.slice none 0 0)] (nth vs2 0) x22 H fun x23 H =>
  K1 [x23] H) (
  CallsH Tryz.prog 89 #[(nth vs2 0), (.func (.func 90) #[] #[])] H fun _ H =>
  R (nth vs2 0) H)
def p67 : Plan := .seq (.leaf []) (.seq (.leaf []) (.seq (.seq (.leaf []) (.block (.loop [3] (.seq (.leaf []) (.seq (.cond (.leaf []) (.leaf [])) (.block (.seq (.leaf []) (.leaf [])))))))) (.seq (.leaf []) (.seq (.leaf []) (.leaf [])))))
theorem s67 {a0 : Value} {H : Heap} {R : Value → Heap → Prop} (h : c67 a0 H R) : CallsH Tryz.prog 67 #[a0] H R :=
  callsH_of_eq p67 (fn := Tryz.f67) (c := Tryz.f67.body.getD .skip) (args := [a0]) Tryz.func67 (by kernel_rfl) mixed (by kernel_rfl) (by kernel_rfl) (by kernel_rfl) h
end Go.Cps
namespace Go.Cps
open Go Go.Proofs
theorem fill2 {z1 z2 a b : Value} : Instr.fill (fun j => some (j * 2, 2)) ((Array.range (1 * 2)).map ((#[z1, z2] : Array Value)[· % 2]!)) [(0, .agg #[a, b])] = some #[a, b] := by
  have e0 : (Array.range (1 * 2)) = #[0, 1] := by decide
  rw [e0]
  simp [Instr.fill, Value.cells]
theorem fill0 {z : Value} : Instr.fill (fun j => some (j * 1, 1)) ((Array.range (0 * 1)).map ((#[z] : Array Value)[· % 1]!)) [] = some #[] := by
  have e0 : (Array.range (0 * 1)) = #[] := by decide
  rw [e0]
  simp [Instr.fill]
theorem headersLoop_ok {H : Heap} {m N : Nat} {E : List Ent} {D : List Nat} {K : Value → Heap → Prop} (hE : Ents H m N E) (h0 : ∀ e ∈ E, e.vs ≠ [] ∧ e.vs.length < 2 ^ 30) (hEl : E.length < 2 ^ 30) (hD : ∀ x ∈ D, x < H.size)
    (hK : ∀ k out hs H', OwnS 2 90 HeadR D H' k out hs → hs.Perm (E.map Ent.hd) → Frm [] H H' → (∀ g, k = some g → H.size ≤ g) → K out H') :
    ∃ x10 H0, (∀ K' : Value → Heap → Prop, ExecV Tryz.prog (Instr.range 106 (.map (some m))) H K' = K' x10 H0) ∧
    Loop [(.slice none 0 0)] H0 fun K1 vs2 H =>
    ExecV Tryz.prog (Instr.next x10 false 0) H fun x11 H =>
    Get (extractV x11 0) fun x12 =>
    Br x12 (
    ExecV Tryz.prog (Instr.entry x10) H fun x13 H =>
    Get (extractV x13 0) fun x14 =>
    Get (extractV x13 1) fun x15 =>
    Get (Instr.fill (fun j => some (j * 1, 1)) ((Array.range (0 * 1)).map ((#[(.string ⟨#[]⟩)] : Array Value)[· % 1]!)) []) fun cs => NewSl cs 9 0 H fun x18 H =>
    Append 9 1 16 #[(.string ⟨#[]⟩)] x18 x15 H fun x20 H =>
    Get ((fillV #[(0, 1), (1, 1)] #[(.string ⟨#[]⟩), (.slice none 0 0)] [(0, x14), (1, x20)]).map .agg) fun x21 =>
    Get (Instr.fill (fun j => some (j * 2, 2)) ((Array.range (1 * 2)).map ((#[(.string ⟨#[]⟩), (.slice none 0 0)] : Array Value)[· % 2]!)) [(0, x21)]) fun cs => NewSl cs 90 1 H fun x22 H =>
    Append 90 2 40 #[(.string ⟨#[]⟩), (.slice none 0 0)] (nth vs2 0) x22 H fun x23 H =>
    K1 [x23] H) (K (nth vs2 0) H) := by
  obtain ⟨es, c, hm, hborn, hlt, hmap, hent⟩ := ents_iter hE
  refine ⟨_, _, fun K' => range_map und106 hm, ?_⟩
  have f0 : Frm [] H (H.push (.mapIter (some m) c #[] c)) := Frm.push _ _ _
  have hit0 : IterAt (H.push (.mapIter (some m) c #[] c)) m H.size es c #[] := ⟨push_old hm, push_same _ _, hborn, hlt⟩
  have hml := lt_of_some hm
  generalize H.push (.mapIter (some m) c #[] c) = H0 at *
  have hnd := hit0.nodup
  refine ⟨fun μ vs H1 => ∃ k out done seen, vs = [out] ∧ μ = (leftOf es seen).size ∧ IterAt H1 m H.size es c seen ∧ OwnS 2 90 HeadR (H.size :: D) H1 k out done ∧ (done ++ (leftOf es seen).toList.map (entHd es E)).Perm (E.map Ent.hd) ∧ Frm [] H H1 ∧ (∀ g, k = some g → H.size < g),
    ⟨_, none, _, [], #[], rfl, rfl, hit0, ⟨rfl, rfl⟩, ?_, f0, by simp⟩, ?_⟩
  · rw [left_start, hmap]; exact List.Perm.refl _
  clear hit0 f0
  rintro μ vs H1 ⟨k, out, done, seen, rfl, rfl, hit, hout, hperm, f1, hk⟩
  simp only [Q0, Q1, Q2, Q3, Q4, Q5, Q6, Q7, Q8, Q9, Qa, Qb, Qc, Qd, Qe, Qf, Qg, Qh, Qi, Qj]
  refine next_map hit (fun hz => ?_) (fun e he => ?_)
  · simp only [Q0, Q1, Q2, Q3, Q4, Q5, Q6, Q7, Q8, Q9, Qa, Qb, Qc, Qd, Qe, Qf, Qg, Qh, Qi, Qj]
    refine hK k out done H1 (hout.sub Qx (fun x hx => by simp [hx])) ?_ f1 (fun g hg => Nat.le_of_lt (hk g hg))
    have : (leftOf es seen).toList = [] := List.eq_nil_of_length_eq_zero (by simpa using hz)
    rw [this] at hperm
    simpa using hperm
  · have hrl := lt_of_some hit.hr
    have hbase := f1.size
    have f2 : Frm [H.size] H1 (upd H1 H.size (.mapIter (some m) c (seen.push e.born) c)) := Frm.upd _ (by simp)
    have hit2 := hit.step e.born
    have z2 : (upd H1 H.size (.mapIter (some m) c (seen.push e.born) c)).size = H1.size := by simp
    generalize upd H1 H.size (.mapIter (some m) c (seen.push e.born) c) = H2 at *
    have hee := left_mem he
    simp only [Q0, Q1, Q2, Q3, Q4, Q5, Q6, Q7, Q8, Q9, Qa, Qb, Qc, Qd, Qe, Qf, Qg, Qh, Qi, Qj]
    rw [entry_map hit2 hee]
    obtain ⟨t, ht, hthd, htk, htv⟩ := hent e hee
    have fH2 : Frm [] H H2 := f1.up f2 (fun x hx => by rw [List.mem_singleton] at hx; subst hx; exact .inr (Nat.le_refl _))
    have hst : StrsAt H2 t.b t.o t.c t.vs := (hE.strs t ht).frm fH2 (by simp)
    obtain ⟨ht0, htl⟩ := h0 t ht
    have hout2 : OwnS 2 90 HeadR (H.size :: D) H2 k out done := hout.frm Qx f2 (fun x hx => by
      rw [List.mem_singleton] at hx; subst hx
      exact ⟨.inl (by simp), fun e => by have := hk _ e; omega⟩)
    simp only [Q0, Q1, Q2, Q3, Q4, Q5, Q6, Q7, Q8, Q9, Qa, Qb, Qc, Qd, Qe, Qf, Qg, Qh, Qi, Qj, fill0, NewSl, htk, htv, Ent.pair]
    have f3 : Frm [] H2 (H2.push (.cells #[] 9 (0, 0))) := Frm.push _ _ _
    have z3 : (H2.push (.cells #[] 9 (0, 0))).size = H2.size + 1 := by simp
    generalize H2.push (.cells #[] 9 (0, 0)) = H3 at *
    have hst3 : StrsV [] H3 (.slice (some ⟨t.b, t.o, none⟩) t.vs.length t.c) t.vs := (hst.frm f3 (by simp)).strsV (by simp)
    have hkl : ∀ y ∈ k.toList ++ H.size :: D, y < H2.size := fun y hy => by
      rcases List.mem_append.1 hy with hy | hy
      · have := (hout2.lt y (by simpa using hy)).1
        exact this
      · rcases List.mem_cons.1 hy with rfl | hy
        · omega
        · have := hD y hy; omega
    refine append_copy (D' := k.toList ++ H.size :: D) hst3 ht0 (by omega) (fun y hy => by have := hkl y hy; omega) fun g v H4 hv4 f4 hg z4 => ?_
    have e1 : fillV #[(0, 1), (1, 1)] #[(.string ⟨#[]⟩), (.slice none 0 0)] [(0, strVal t.key), (1, v)] = some #[strVal t.key, v] := by
      rw [fillV_cons rfl rfl (by simp), fillV_cons hv4.isOne rfl (by simp), fillV_nil]; rfl
    simp only [e1, Option.map_some, Q6, fill2, NewSl]
    have f5 : Frm [] H4 (H4.push (.cells #[strVal t.key, v] 90 (0, 0))) := Frm.push _ _ _
    have hb5 := push_same H4 (.cells #[strVal t.key, v] 90 (0, 0))
    have z5 : (H4.push (.cells #[strVal t.key, v] 90 (0, 0))).size = H4.size + 1 := by simp
    generalize H4.push (.cells #[strVal t.key, v] 90 (0, 0)) = H5 at *
    have f25 : Frm [] H2 H5 := (f3.trans f4).trans f5
    have hout5 := hout2.frm Qx f25 (by simp)
    have hlenp := hperm.length_eq
    simp only [List.length_append, List.length_map, Array.length_toList] at hlenp
    refine append_one Qx (xs := [strVal t.key, v]) (a := t.hd) hout5 (fun i hi => ?_) rfl ⟨v, rfl, (hv4.slV Qy).frm Qy f5 (by simp)⟩ rfl (by omega) (by omega) (fun x hx => ?_) (by omega) fun k' v' H6 hout6 f6 hk6 => ?_
    · rw [cellH_of hb5]; simp
    · have := hkl x (by simp only [List.mem_append, List.mem_cons]; exact .inr (List.mem_cons.1 hx)); omega
    · have hit6 := (hit2.frm f25 (by simp) (by simp)).frm f6 (fun hm => by have := hk m (by simpa using hm); omega) (fun hm => by have := hk _ (by simpa using hm); omega)
      have hlp : (leftOf es (seen.push e.born)).toList = (leftOf es seen).toList.filter fun x => x.born != e.born := left_push es seen e.born
      have hpo := perm_out (left_nodup seen hnd) he
      have hlen : (leftOf es (seen.push e.born)).size < (leftOf es seen).size := by
        have h1 := hpo.length_eq
        rw [← hlp] at h1
        simp only [List.length_cons, Array.length_toList] at h1
        omega
      refine ⟨_, hlen, k', v', done ++ [t.hd], seen.push e.born, rfl, rfl, hit6, hout6, ?_, ?_, ?_⟩
      · refine List.Perm.trans ?_ hperm
        rw [hlp, List.append_assoc]
        refine List.Perm.append_left _ ?_
        have := hpo.map (entHd es E)
        rw [List.map_cons, hthd] at this
        exact this.symm
      · exact (fH2.trans f25).up f6 (fun x hx => .inr (Nat.le_of_lt (hk x (by simpa using hx))))
      · intro g hg
        rcases hk6 with h | ⟨g', h, hge⟩
        · exact hk g (by rw [← h, hg])
        · rw [hg] at h; cases h; omega
end Go.Cps
namespace Go.Cps
open Go Go.Proofs
set_option maxRecDepth 100000
def c33 (a0 : Value) (H : Heap) (R : Value → Heap → Prop) : Prop :=
  NewMap H fun x6 H =>
  Get (lenV a0) fun x8 =>
  Loop [(.int .i64 0)] H fun K1 vs2 H =>
  Get (arithV .lss .i64 (nth vs2 0) x8) fun x10 =>
  Br x10 (
  Get (elemAddrV 2 a0 (nth vs2 0)) fun x11 =>
  Get (loadNV 2 x11 H) fun x12 =>
  New (.cells #[(.string ⟨#[]⟩), (.slice none 0 0)] 90 (0, 0)) H fun x5 H =>
  Get (storeNV 2 x5 x12 H) fun H =>
  Get (fieldAddrV 0 x5) fun x14 =>
  Get (load1V x14 H) fun x15 =>
  Get (fieldAddrV 0 x5) fun x17 =>
  Get (load1V x17 H) fun x18 =>
  Get (fieldAddrV 1 x5) fun x20 =>
  Get (load1V x20 H) fun x21 =>
  ExecV Tryz.prog (Instr.lookup 66 x6 x18 false) H fun x19 H =>
  (load1V x20 H = some x21 ∧ (load1V x14 H = some x15 ∧ True)) ∧
  Append 9 1 16 #[(.string ⟨#[]⟩)] x19 x21 H fun x22 H =>
  (load1V x14 H = some x15 ∧ True) ∧
  ExecV Tryz.prog (do Instr.mapUpdate 66 x6 x15 x22; pure undef) H fun u H =>
  Get (arithV .add .i64 (nth vs2 0) (.int .i64 1)) fun x23 =>
  K1 [x23] H) (
  R x6 H)
def p33 : Plan := .seq (.leaf []) (.seq (.leaf []) (.seq (.seq (.leaf []) (.block (.loop [9] (.seq (.leaf []) (.seq (.cond (.leaf []) (.leaf [])) (.seq (.block (.seq (.leaf []) (.leaf [0, 1, 2, 3, 4, 5, 7, 8, 6, 9, 10]))) (.leaf []))))))) (.seq (.leaf []) (.leaf []))))
theorem s33 {a0 : Value} {H : Heap} {R : Value → Heap → Prop} (h : c33 a0 H R) : CallsH Tryz.prog 33 #[a0] H R :=
  callsH_of_eq p33 (fn := Tryz.f33) (c := Tryz.f33.body.getD .skip) (args := [a0]) Tryz.func33 (by kernel_rfl) mixed (by kernel_rfl) (by kernel_rfl) (by kernel_rfl) h
def c32 (a0 a1 : Value) (H : Heap) (R : Value → Heap → Prop) : Prop :=
  Join (fun K1 =>
  Fld 2 a0 H fun x18 =>
  Get (nilV2 .neq (.pointer none) x18) fun x19 =>
  Br x19 (
  Fld 2 a0 H fun x23 =>
  CallsH Tryz.prog 61 #[x23] H fun x24 H =>
  Get (nilV2 .neq .nilIface x24) fun x26 =>
  Br x26 (
  R (.tuple #[.nilIface, x24]) H) (
  K1 [] H)) (
  K1 [] H)) fun _ H =>
  New (.cells #[(.slice none 0 0), (.int .i64 0), (.int .i8 0)] 55 (0, 0)) H fun x7 H =>
  Join (fun K3 =>
  Fld 2 a0 H fun x31 =>
  Get (nilV2 .neq (.pointer none) x31) fun x32 =>
  Br x32 (
  Fld 1 a0 H fun x36 =>
  Get (strV .add (.string ⟨#[13, 10, 45, 45]⟩) x36) fun x37 =>
  Get (strV .add x37 (.string ⟨#[13, 10]⟩)) fun x38 =>
  CallsH Tryz.prog 62 #[x7, x38] H fun _ H =>
  K3 [] H) (
  Fld 1 a0 H fun x43 =>
  Get (strV .add (.string ⟨#[45, 45]⟩) x43) fun x44 =>
  Get (strV .add x44 (.string ⟨#[13, 10]⟩)) fun x45 =>
  CallsH Tryz.prog 62 #[x7, x45] H fun _ H =>
  K3 [] H)) fun _ H =>
  CallsH Tryz.prog 64 #[a1] H fun x48 H =>
  CallsH Tryz.prog 63 #[x48] H fun x49 H =>
  Get (lenV x49) fun x50 =>
  Loop [(.int .i64 0)] H fun K5 vs6 H =>
  Get (arithV .lss .i64 (nth vs6 0) x50) fun x52 =>
  Br x52 (
  Get (elemAddrV 1 x49 (nth vs6 0)) fun x53 =>
  Get (load1V x53 H) fun x54 =>
  ExecV Tryz.prog (Instr.lookup 106 a1 x54 false) H fun x57 H =>
  Get (lenV x57) fun x58 =>
  Loop [(.int .i64 0)] H fun K7 vs8 H =>
  Get (arithV .lss .i64 (nth vs8 0) x58) fun x60 =>
  Br x60 (
  Get (elemAddrV 1 x57 (nth vs8 0)) fun x61 =>
  Get (load1V x61 H) fun x62 =>
  Get (strV .add x54 (.string ⟨#[58, 32]⟩)) fun x64 =>
  Get (strV .add x64 x62) fun x66 =>
  Get (strV .add x66 (.string ⟨#[13, 10]⟩)) fun x67 =>
  CallsH Tryz.prog 62 #[x7, x67] H fun _ H =>
  Get (arithV .add .i64 (nth vs8 0) (.int .i64 1)) fun x69 =>
  K7 [x69] H) (
  Get (arithV .add .i64 (nth vs6 0) (.int .i64 1)) fun x70 =>
  K5 [x70] H)) (
  CallsH Tryz.prog 62 #[x7, (.string ⟨#[13, 10]⟩)] H fun _ H =>
  Fld 0 a0 H fun x76 =>
  Get (some (Value.iface 58 x7)) fun x77 =>
  CallsH Tryz.prog 65 #[x76, x77] H fun x78 H =>
  Get (extractV x78 0) fun _ =>
  Get (extractV x78 1) fun x80 =>
  Get (nilV2 .neq .nilIface x80) fun x82 =>
  Br x82 (
  R (.tuple #[.nilIface, x80]) H) (
  Get ((fillV #[(0, 1), (1, 1), (2, 1)] #[(.pointer none), (.bool false), .nilIface] [(0, a0)]).map .agg) fun x85 =>
  New (.cells (Value.cells x85) 115 (0, 0)) H fun x86 H =>
  Get (nilV a0) fun x89 =>
  Get (fieldAddrV 2 x89) fun x90 =>
  Get (store1V x90 x86 H) fun H =>
  Get (some (Value.iface 103 x86)) fun x92 =>
  R (.tuple #[x92, .nilIface]) H))
def p32 : Plan := .seq (.leaf []) (.join [] (.seq (.leaf []) (.cond (.seq (.leaf []) (.seq (.leaf []) (.cond (.seq (.leaf []) (.leaf [])) (.leaf [])))) (.leaf []))) (.seq (.leaf []) (.join [] (.seq (.leaf []) (.cond (.leaf []) (.leaf []))) (.seq (.seq (.leaf []) (.block (.loop [51] (.seq (.leaf []) (.seq (.cond (.leaf []) (.leaf [])) (.seq (.block (.seq (.leaf []) (.seq (.leaf []) (.block (.loop [59] (.seq (.leaf []) (.seq (.cond (.leaf []) (.leaf [])) (.seq (.block (.seq (.leaf []) (.leaf []))) (.leaf []))))))))) (.leaf []))))))) (.seq (.leaf []) (.seq (.leaf []) (.seq (.seq (.leaf []) (.cond (.seq (.leaf []) (.leaf [])) (.leaf []))) (.seq (.leaf []) (.seq (.leaf []) (.seq (.leaf []) (.leaf [])))))))))))
theorem s32 {a0 a1 : Value} {H : Heap} {R : Value → Heap → Prop} (h : c32 a0 a1 H R) : CallsH Tryz.prog 32 #[a0, a1] H R :=
  callsH_of_eq p32 (fn := Tryz.f32) (c := Tryz.f32.body.getD .skip) (args := [a0, a1]) Tryz.func32 (by kernel_rfl) mixed (by kernel_rfl) (by kernel_rfl) (by kernel_rfl) h
def c98 (a0 : Value) (H : Heap) (R : Value → Heap → Prop) : Prop :=
  Loop [a0, (.bool true), (.int .i64 0)] H fun K1 vs2 H =>
  Get (lenStrV (nth vs2 0)) fun x8 =>
  Get (arithV .lss .i64 (nth vs2 2) x8) fun x9 =>
  Br x9 (
  Get (strIndexV (nth vs2 0) (nth vs2 2)) fun x14 =>
  CallsH Tryz.prog 119 #[x14] H fun x16 H =>
  Get (unV .not x16) fun x17 =>
  Br x17 (
  R (nth vs2 0) H) (
  Join (fun K3 =>
  Br (nth vs2 1) (
  Get (arithV .leq .u8 (.int .u8 97) x14) fun x22 =>
  Get (pickV (.bool true) x22 (.bool false)) fun x23 =>
  Br x23 (
  Get (arithV .leq .u8 x14 (.int .u8 122)) fun x26 =>
  Get (pickV (.bool true) x26 (.bool false)) fun x27 =>
  K3 [x27] H) (
  Get (pickV (.bool false) undef (.bool false)) fun x27_1 =>
  K3 [x27_1] H)) (
  Get (pickV (.bool false) undef (.bool false)) fun x23_1 =>
  Br x23_1 (
  Get (arithV .leq .u8 x14 (.int .u8 122)) fun x26_1 =>
  Get (pickV (.bool true) x26_1 (.bool false)) fun x27_2 =>
  K3 [x27_2] H) (
  Get (pickV (.bool false) undef (.bool false)) fun x27_3 =>
  K3 [x27_3] H))) fun vs4 H =>
  Br (nth vs4 0) (
  ToBytes 5 (nth vs2 0) H fun x30 H =>
  CallsH Tryz.prog 120 #[x30] H fun x31 H =>
  Get (extractV x31 0) fun x32 =>
  Get (extractV x31 1) fun _ =>
  R x32 H) (
  Join (fun K5 =>
  Get (unV .not (nth vs2 1)) fun x36 =>
  Br x36 (
  Get (arithV .leq .u8 (.int .u8 65) x14) fun x39 =>
  Get (pickV (.bool true) x39 (.bool false)) fun x40 =>
  Br x40 (
  Get (arithV .leq .u8 x14 (.int .u8 90)) fun x43 =>
  Get (pickV (.bool true) x43 (.bool false)) fun x44 =>
  K5 [x44] H) (
  Get (pickV (.bool false) undef (.bool false)) fun x44_1 =>
  K5 [x44_1] H)) (
  Get (pickV (.bool false) undef (.bool false)) fun x40_1 =>
  Br x40_1 (
  Get (arithV .leq .u8 x14 (.int .u8 90)) fun x43_1 =>
  Get (pickV (.bool true) x43_1 (.bool false)) fun x44_2 =>
  K5 [x44_2] H) (
  Get (pickV (.bool false) undef (.bool false)) fun x44_3 =>
  K5 [x44_3] H))) fun vs6 H =>
  Br (nth vs6 0) (
  ToBytes 5 (nth vs2 0) H fun x47 H =>
  CallsH Tryz.prog 120 #[x47] H fun x48 H =>
  Get (extractV x48 0) fun x49 =>
  Get (extractV x48 1) fun _ =>
  R x49 H) (
  Get (arithV .eql .u8 x14 (.int .u8 45)) fun x53 =>
  Get (arithV .add .i64 (nth vs2 2) (.int .i64 1)) fun x11 =>
  K1 [(nth vs2 0), x53, x11] H)))) (
  R (nth vs2 0) H)
def p98 : Plan := .seq (.leaf []) (.seq (.leaf []) (.seq (.seq (.leaf []) (.block (.loop [0, 3, 4] (.seq (.seq (.leaf []) (.cond (.leaf []) (.leaf []))) (.seq (.block (.seq (.leaf []) (.seq (.seq (.leaf []) (.cond (.seq (.leaf []) (.leaf [])) (.leaf []))) (.seq (.join [27] (.leaf []) (.cond (.seq (.leaf []) (.seq (.leaf []) (.leaf []))) (.leaf []))) (.seq (.join [44] (.leaf []) (.cond (.seq (.leaf []) (.seq (.leaf []) (.leaf []))) (.leaf []))) (.leaf [])))))) (.leaf [])))))) (.seq (.leaf []) (.leaf []))))
theorem s98 {a0 : Value} {H : Heap} {R : Value → Heap → Prop} (h : c98 a0 H R) : CallsH Tryz.prog 98 #[a0] H R :=
  callsH_of_eq p98 (fn := Tryz.f98) (c := Tryz.f98.body.getD .skip) (args := [a0]) Tryz.func98 (by kernel_rfl) mixed (by kernel_rfl) (by kernel_rfl) (by kernel_rfl) h
end Go.Cps
