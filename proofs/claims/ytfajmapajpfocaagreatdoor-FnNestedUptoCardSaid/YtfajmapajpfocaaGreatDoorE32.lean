/-
  A part of the proof (its texts: L83, L84, L85): each text says below what it proves.
  Conditions: each contract's own.
-/
import Derived.Test.YtfajmapajpfocaaGreatDoorE31
set_option linter.all false
/-
  append of strings to an owned slice; impl.header of any headers.
  Conditions: short texts.
-/
namespace Go.Cps
open Go Go.Proofs

theorem strs_one {l : List (List UInt8)} : ∀ v ∈ l.map strVal, isOne v = true := fun v hv => by
  obtain ⟨s, _, rfl⟩ := List.mem_map.1 hv; rfl
theorem ownStrs {D : List Nat} {H : Heap} {g c : Nat} {cells : Array Value} {l : List (List UInt8)} (hg : H[g]? = some (.cells cells 9 (0, 0))) (hs : cells.size = c) (hl : l.length ≤ c) (hD : g ∉ D) (h : ∀ j (hj : j < l.length), cells[j]? = some (strVal l[j])) : OwnS 1 9 StrR D H (some g) (.slice (some ⟨g, 0, none⟩) l.length c) l :=
  ⟨cells, c, rfl, hg, by omega, hl, hD, fun j hj => ⟨[strVal l[j]], rfl, rfl, fun i hi => by
    have : i = 0 := by omega
    subst this
    rw [Nat.mul_one, Nat.add_zero, h j hj]; rfl⟩⟩

/-- append(own, list...) -/
theorem append_strs {D D' : List Nat} {H : Heap} {k : Option Nat} {v x : Value} {us vs : List (List UInt8)} {K : Value → Heap → Prop} (h : OwnS 1 9 StrR D H k v us) (hx : StrsV D' H x vs) (hl : us.length + vs.length < 2 ^ 36) (hD : ∀ y ∈ D, y < H.size)
    (hK : ∀ k' v' H', OwnS 1 9 StrR D H' k' v' (us ++ vs) → Frm k.toList H H' → (k' = k ∨ ∃ g, k' = some g ∧ H.size ≤ g) → K v' H') :
    Append 9 1 16 #[.string ⟨#[]⟩] v x H K := by
  cases k with
  | none =>
    obtain ⟨rfl, rfl⟩ := h
    by_cases h0 : vs = []
    · subst h0
      refine ⟨none, 0, 0, 0, [], rfl, strs_count hx, strs_elems hx, .inl ⟨Nat.le_refl _, H, rfl, ?_⟩⟩
      exact hK none _ H ⟨rfl, rfl⟩ (Frm.refl _ _) (.inl rfl)
    · refine append_copy (D' := D) hx h0 (by omega) hD fun g w H' hw f hg z => ?_
      exact hK (some g) w H' hw f (.inr ⟨g, rfl, by omega⟩)
  | some g =>
    obtain ⟨cells, c, rfl, hg, hc, hle, hgD, he⟩ := h
    have hcs : cells.size = c := by omega
    have hcell : ∀ j (hj : j < us.length), cells[j]? = some (strVal us[j]) := fun j hj => by
      obtain ⟨ws, _, g2, g3⟩ := he j hj
      have := g3 0 (by omega)
      rw [show ws = [strVal us[j]] from g2, Nat.mul_one, Nat.add_zero] at this
      exact this
    refine ⟨_, _, _, vs.length, _, rfl, strs_count hx, strs_elems hx, ?_⟩
    by_cases hroom : us.length + vs.length ≤ c
    · left
      refine ⟨hroom, ?_⟩
      have hst := stores_upd (vs.map strVal) H g us.length 0 cells 9 hg (by simp; omega) strs_one
      simp only [storeRow, add_mk, Nat.zero_add, Nat.mul_one, hst, Get_some, Nat.add_zero]
      have hle2 : us.length + (vs.map strVal).length ≤ cells.size := by simp; omega
      have ho := ownStrs (D := D) (l := us ++ vs) (c := c) (cells := putAt cells us.length (vs.map strVal)) (upd_same (H := H) (o := .cells (putAt cells us.length (vs.map strVal)) 9 (0, 0)) (lt_of_some hg)) (by rw [putAt_size, hcs]) (by simp; omega) hgD (fun j hj => by
        rw [putAt_get _ _ _ _ hle2]
        by_cases hj2 : j < us.length
        · rw [if_neg (by omega), hcell j hj2, List.getElem_append_left hj2]
        · simp at hj
          rw [if_pos ⟨by omega, by simp; omega⟩, List.getElem?_map, List.getElem?_eq_getElem (by omega), List.getElem_append_right (by omega)]
          rfl)
      rw [List.length_append] at ho
      exact hK (some g) _ _ ho (Frm.upd _ (by simp)) (.inl rfl)
    · right
      have hlt : c < us.length + vs.length := by omega
      have hcap := nextslicecap_le hlt
      have holds := elems_cells (w := 1) (b' := g) (o' := 0) (m := us.length) (n := us.length) (c' := c) hg (by omega)
      refine ⟨hlt, by omega, by omega, _, holds, fun c' hc' => ?_⟩
      rw [List.drop_zero, Nat.mul_one]
      have hF : ∀ j (hj : j < (us ++ vs).length), ((cells.toList.take us.length).toArray ++ (vs.map strVal).toArray ++ zeros #[.string ⟨#[]⟩] (c' - (us.length + vs.length)))[j]? = some (strVal (us ++ vs)[j]) := by
        intro j hj
        rw [Array.append_assoc]
        by_cases hj2 : j < us.length
        · rw [Array.getElem?_append_left (by simp; omega), List.getElem_append_left hj2, ← hcell j hj2]
          simp [List.getElem?_take, hj2]
        · simp at hj
          have hsz : (cells.toList.take us.length).toArray.size = us.length := by simp; omega
          rw [Array.getElem?_append_right (by omega), hsz, Array.getElem?_append_left (by simp; omega), List.getElem_append_right (by omega)]
          simp [List.getElem?_eq_getElem (show j - us.length < vs.length by omega)]
      have ho := ownStrs (D := D) (l := us ++ vs) (c := c') (push_same H (.cells ((cells.toList.take us.length).toArray ++ (vs.map strVal).toArray ++ zeros #[.string ⟨#[]⟩] (c' - (us.length + vs.length))) 9 (0, 0))) (by simp [zeros, Builtin.zeroCells]; omega) (by simpa using hc') (fun hm => by have := hD _ hm; omega) hF
      rw [List.length_append] at ho
      exact hK (some H.size) _ _ ho (Frm.push _ _ _) (.inr ⟨_, rfl, Nat.le_refl _⟩)

/-- some values more of a key -/
def addM (k : List UInt8) (vs : List (List UInt8)) : List Hdr → List Hdr
  | [] => [(k, vs)]
  | p :: r => if p.1 = k then (p.1, p.2 ++ vs) :: r else p :: addM k vs r
def hdrG (hd : List Hdr) : List Hdr := hd.foldl (fun acc p => addM p.1 p.2 acc) []
theorem hdrG_snoc (hd : List Hdr) (p : Hdr) : hdrG (hd ++ [p]) = addM p.1 p.2 (hdrG hd) := by simp [hdrG, List.foldl_append]

/-- an entry that is owned -/
abbrev OEnt := GEnt × Option Nat
def OEnt.pair (t : OEnt) : List UInt8 × Value := t.1.pair
structure OEnts (B : Nat) (H : Heap) (m : Nat) (T : List OEnt) : Prop where
  map : MapAt H m (T.map OEnt.pair)
  own : ∀ t ∈ T, OwnS 1 9 StrR [] H t.2 t.1.2 t.1.1.2 ∧ ∀ b, t.2 = some b → B ≤ b ∧ b ≠ m
  apart : T.Pairwise fun s t => ∀ b, s.2 = some b → t.2 ≠ some b
  nd : (T.map (·.1.1.1)).Nodup

theorem getT_none {k : List UInt8} : ∀ {T : List OEnt}, getE k (T.map OEnt.pair) = none → (∀ vs, addM k vs (T.map (·.1.1)) = T.map (·.1.1) ++ [(k, vs)]) ∧ (∀ v, setE k v (T.map OEnt.pair) = T.map OEnt.pair ++ [(k, v)]) ∧ k ∉ T.map (·.1.1.1)
  | [], _ => ⟨fun _ => rfl, fun _ => rfl, by simp⟩
  | t :: r, h => by
    simp only [List.map_cons, getE] at h
    split at h
    · cases h
    · rename_i hk
      have hk' : ¬ t.1.1.1 = k := hk
      obtain ⟨h1, h2, h3⟩ := getT_none h
      refine ⟨fun vs => ?_, fun v => ?_, ?_⟩
      · simp only [List.map_cons, addM, if_neg hk', List.cons_append, h1]
      · simp only [List.map_cons, setE, List.cons_append, h2]
        rw [if_neg hk]
      · simp only [List.map_cons, List.mem_cons, not_or]
        exact ⟨fun e => hk' e.symm, h3⟩
theorem getT_some {k : List UInt8} {u : Value} : ∀ {T : List OEnt}, getE k (T.map OEnt.pair) = some u → ∃ A t C, T = A ++ t :: C ∧ t.1.1.1 = k ∧ u = t.1.2 ∧ (∀ vs, addM k vs (T.map (·.1.1)) = A.map (·.1.1) ++ (k, t.1.1.2 ++ vs) :: C.map (·.1.1)) ∧ ∀ v, setE k v (T.map OEnt.pair) = A.map OEnt.pair ++ (k, v) :: C.map OEnt.pair
  | [], h => by cases h
  | t :: r, h => by
    simp only [List.map_cons, getE] at h
    split at h
    · rename_i hk
      have hk' : t.1.1.1 = k := hk
      cases h
      refine ⟨[], t, r, rfl, hk', rfl, fun vs => ?_, fun v => ?_⟩
      · simp only [List.map_cons, addM, if_pos hk', List.map_nil, List.nil_append, hk', if_true]
      · simp only [List.map_cons, setE, List.map_nil, List.nil_append]
        rw [if_pos hk, hk]
    · rename_i hk
      have hk' : ¬ t.1.1.1 = k := hk
      obtain ⟨A, s, C, rfl, h1, h2, h3, h4⟩ := getT_some h
      refine ⟨t :: A, s, C, rfl, h1, h2, fun vs => ?_, fun v => ?_⟩
      · simp only [List.map_cons, addM, if_neg hk', List.cons_append, h3]
      · simp only [List.map_cons, setE, List.cons_append, h4]
        rw [if_neg hk]
theorem OEnts.frm {B : Nat} {H H' : Heap} {m : Nat} {T : List OEnt} (h : OEnts B H m T) (f : Frm [] H H') : OEnts B H' m T :=
  ⟨h.map.frm f (by simp), fun t ht => ⟨(h.own t ht).1.frm strR_ok f (by simp), (h.own t ht).2⟩, h.apart, h.nd⟩

theorem ownStr_frm {D X : List Nat} {H H' : Heap} {k : Option Nat} {v : Value} {l : List (List UInt8)} (h : OwnS 1 9 StrR D H k v l) (f : Frm X H H') (hX : ∀ x ∈ X, k ≠ some x) : OwnS 1 9 StrR D H' k v l := by
  cases k with
  | none => exact h
  | some g =>
    obtain ⟨cells, c, rfl, hg, hc, hl, hD, he⟩ := h
    exact ⟨cells, c, rfl, f.get hg (fun hm => hX g hm rfl), hc, hl, hD, he⟩

theorem headerG_ok {D : List Nat} {H : Heap} {v : Value} {hd : List Hdr} (hv : HeadsV D H v hd) (hl : hd.length < 2 ^ 35) (hs : ∀ n, ∀ p ∈ hdrG (hd.take n), p.2.length < 2 ^ 35) (hs2 : ∀ p ∈ hd, p.2.length < 2 ^ 35) :
    CallsH Tryz.prog 33 #[v] H fun x H' => ∃ m T, x = .map (some m) ∧ OEnts H.size H' m T ∧ T.map (·.1.1) = hdrG hd ∧ Frm [] H H' ∧ H.size ≤ m := by
  apply s33
  simp only [c33, NewMap, hv.len, Get_some]
  have f1 : Frm [] H (H.push (.map #[] 0)) := Frm.push _ _ _
  have hm1 := mapAt_new H
  have z1 : (H.push (.map #[] 0)).size = H.size + 1 := by simp
  generalize H.push (.map #[] 0) = H1 at *
  refine ⟨fun μ vs H2 => ∃ (i : Nat) (T : List OEnt), vs = [.int .i64 i] ∧ μ = hd.length - i ∧ i ≤ hd.length ∧ OEnts H.size H2 H.size T ∧ T.map (·.1.1) = hdrG (hd.take i) ∧ Frm [] H H2 ∧ H.size < H2.size,
    ⟨_, 0, [], rfl, rfl, Nat.zero_le _, ⟨hm1, by simp, List.Pairwise.nil, by simp⟩, by simp [hdrG], f1, by omega⟩, ?_⟩
  rintro μ vs H2 ⟨i, T, rfl, rfl, hi, hE, hT, f2, hml⟩
  simp only [Fld_ptr, add_mk, Nat.zero_add, List.getElem?_toArray, List.getElem?_cons_succ, List.getElem?_cons_zero, Get_some, Br_true, Br_false, nth_zero, nth_one, nth_two, extractV_tuple, fieldAddrV_ptr, nilV_ptr, load1V_ptr, pickV_bool, unV_not, lenV_slice, capV_slice, arithV_add, arithV_sub, arithV_eql, arithV_neq, arithV_lss, arithV_leq, arithV_gtr, arithV_geq, intConvV_int, dec_lt]
  refine Br_intro (fun hlt => ?_) (fun hlt => ?_)
  · have hlt' : i < hd.length := by simpa using hlt
    obtain ⟨a, cs, ha, hlo, _, hR⟩ := hv.elem2 f2 hlt'
    obtain ⟨y, rfl, hy⟩ := head_shape hR
    have hpl := hs2 hd[i] (List.getElem_mem hlt')
    have htk : hdrG (hd.take (i + 1)) = addM hd[i].1 hd[i].2 (hdrG (hd.take i)) := by rw [List.take_succ_eq_append_getElem hlt', hdrG_snoc]
    have hsi := hs i
    generalize hd[i] = p at *
    simp only [ha, Get_some, hlo]
    refine local2' (K := fun x5 H => _) rfl hy.isOne fun H3 hb3 f3 z3 => ?_
    have f23 := f2.trans f3
    have hE3 := hE.frm f3
    have hy3 := hy.frm strR_ok f23 (by simp)
    simp only [Fld_ptr, add_mk, Nat.zero_add, List.getElem?_toArray, List.getElem?_cons_succ, List.getElem?_cons_zero, Get_some, Br_true, Br_false, nth_zero, nth_one, nth_two, extractV_tuple, fieldAddrV_ptr, nilV_ptr, load1V_ptr, pickV_bool, unV_not, lenV_slice, capV_slice, cellH_of hb3]
    rw [lookup_of und66 hE3.map]
    refine ⟨⟨by rw [cellH_of hb3]; rfl, by rw [cellH_of hb3]; rfl, trivial⟩, ?_⟩
    have hlast : ∀ (T' : List OEnt) (H5 : Heap), OEnts H.size H5 H.size T' → T'.map (·.1.1) = addM p.1 p.2 (hdrG (hd.take i)) → Frm [] H H5 → H.size < H5.size → ∃ n', n' < hd.length - i ∧ ∃ (i' : Nat) (T : List OEnt), [Value.int .i64 ((i + 1 : Nat) : Int)] = [.int .i64 (i' : Nat)] ∧ n' = hd.length - i' ∧ i' ≤ hd.length ∧ OEnts H.size H5 H.size T ∧ T.map (·.1.1) = hdrG (hd.take i') ∧ Frm [] H H5 ∧ H.size < H5.size :=
      fun T' H5 h1 h2 h3 h4 => ⟨_, by omega, i + 1, T', rfl, rfl, hlt', h1, by rw [h2, htk], h3, h4⟩
    have hs23 := f23.size
    cases hg : getE p.1 (T.map OEnt.pair) with
    | none =>
      obtain ⟨g1, g2, g3⟩ := getT_none hg
      simp only [Option.getD_none]
      refine append_strs (D := []) (k := none) (us := []) (v := .slice none 0 0) ⟨rfl, rfl⟩ hy3 (by simp; omega) (by simp) fun k' v' H4 ho f4 hk' => ?_
      simp only [List.nil_append] at ho
      refine ⟨⟨by rw [cellH_of (f4.get hb3 (by simp))]; rfl, trivial⟩, ?_⟩
      have hE4 := hE3.frm f4
      obtain ⟨H5, hm5, f5, z5, hex⟩ := update_of und66 (k := p.1) (v := v') hE4.map
      rw [hex]
      simp only [inc_i64 (show i < 2 ^ 62 by omega), arithV_add, arithV_sub, arithV_eql, arithV_neq, arithV_lss, arithV_leq, arithV_gtr, arithV_geq, intConvV_int, Fld_ptr, add_mk, Nat.zero_add, List.getElem?_toArray, List.getElem?_cons_succ, List.getElem?_cons_zero, Get_some, Br_true, Br_false, nth_zero, nth_one, nth_two, extractV_tuple, fieldAddrV_ptr, nilV_ptr, load1V_ptr, pickV_bool, unV_not, lenV_slice, capV_slice]
      have hs4 := f4.size
      have hk4 : ∀ b, k' = some b → H3.size ≤ b := fun b hb => by
        rcases hk' with e | ⟨g, e, hge⟩
        · rw [hb] at e; cases e
        · rw [hb] at e; cases e; exact hge
      have hmX : ∀ {t : Option Nat}, (∀ b, t = some b → H.size ≤ b ∧ b ≠ H.size) → ∀ x ∈ [H.size], t ≠ some x := fun ht x hx e => by rw [List.mem_singleton] at hx; exact (ht x e).2 hx
      refine hlast (T ++ [(((p.1, p.2), v'), k')]) H5 ⟨?_, fun t ht => ?_, ?_, ?_⟩ ?_ ((f23.trans f4).up f5 (fun x hx => by rw [List.mem_singleton] at hx; subst hx; exact .inr (Nat.le_refl _))) (by omega)
      · rw [g2] at hm5
        rw [List.map_append]
        exact hm5
      · rcases List.mem_append.1 ht with ht | ht
        · obtain ⟨h1, h2⟩ := hE4.own t ht
          exact ⟨ownStr_frm h1 f5 (hmX h2), h2⟩
        · rw [List.mem_singleton] at ht
          subst ht
          have h2 : ∀ b, k' = some b → H.size ≤ b ∧ b ≠ H.size := fun b hb => by have := hk4 b hb; omega
          exact ⟨ownStr_frm ho f5 (hmX h2), h2⟩
      · rw [List.pairwise_append]
        refine ⟨hE4.apart, by simp, fun s hs' t ht b hb hb2 => ?_⟩
        rw [List.mem_singleton] at ht
        subst ht
        have h1 := ((hE3.own s hs').1.lt b hb).1
        have h2 := hk4 b hb2
        omega
      · rw [List.map_append, List.nodup_append]
        refine ⟨hE4.nd, by simp, fun a ha b hb => ?_⟩
        simp only [List.map_cons, List.map_nil, List.mem_singleton] at hb
        subst hb
        rintro rfl
        exact g3 ha
      · rw [List.map_append, ← hT, g1]
        rfl
    | some u =>
      obtain ⟨A, t0, C, hTe, g1, g2, g3, g4⟩ := getT_some hg
      have ht0 : t0 ∈ T := by rw [hTe]; simp
      obtain ⟨ho0, hb0⟩ := hE3.own t0 ht0
      have hul : t0.1.1.2.length < 2 ^ 35 := hsi t0.1.1 (by rw [← hT]; exact List.mem_map.2 ⟨t0, ht0, rfl⟩)
      simp only [Option.getD_some]
      rw [g2]
      refine append_strs (D := []) ho0 hy3 (by omega) (by simp) fun k' v' H4 ho f4 hk' => ?_
      have hkl : ∀ x ∈ t0.2.toList, x ≠ H2.size ∧ x < H3.size ∧ H.size ≤ x ∧ x ≠ H.size := fun x hx => by
        have hx' : t0.2 = some x := by simpa using hx
        have h1 := ((hE.own t0 ht0).1.lt x hx').1
        have h2 := hb0 x hx'
        omega
      refine ⟨⟨by rw [cellH_of (f4.get hb3 (fun hm => (hkl _ hm).1 rfl))]; rfl, trivial⟩, ?_⟩
      have hm4 := hE3.map.frm f4 (fun hm => (hkl _ hm).2.2.2 rfl)
      obtain ⟨H5, hm5, f5, z5, hex⟩ := update_of und66 (k := p.1) (v := v') hm4
      rw [hex]
      simp only [inc_i64 (show i < 2 ^ 62 by omega), arithV_add, arithV_sub, arithV_eql, arithV_neq, arithV_lss, arithV_leq, arithV_gtr, arithV_geq, intConvV_int, Fld_ptr, add_mk, Nat.zero_add, List.getElem?_toArray, List.getElem?_cons_succ, List.getElem?_cons_zero, Get_some, Br_true, Br_false, nth_zero, nth_one, nth_two, extractV_tuple, fieldAddrV_ptr, nilV_ptr, load1V_ptr, pickV_bool, unV_not, lenV_slice, capV_slice]
      have hs4 := f4.size
      have hk4 : ∀ b, k' = some b → t0.2 = some b ∨ H3.size ≤ b := fun b hb => by
        rcases hk' with e | ⟨g, e, hge⟩
        · exact .inl (by rw [← e, hb])
        · rw [hb] at e; cases e; exact .inr hge
      have hmX : ∀ {t : Option Nat}, (∀ b, t = some b → H.size ≤ b ∧ b ≠ H.size) → ∀ x ∈ [H.size], t ≠ some x := fun ht x hx e => by rw [List.mem_singleton] at hx; exact (ht x e).2 hx
      have hap := hE3.apart
      rw [hTe, List.pairwise_append, List.pairwise_cons] at hap
      obtain ⟨p1, ⟨p2, p3⟩, p4⟩ := hap
      have hoth : ∀ s, s ∈ A ∨ s ∈ C → s ∈ T ∧ (∀ b, s.2 = some b → t0.2 ≠ some b) := fun s hs' => by
        rcases hs' with h | h
        · exact ⟨by rw [hTe]; simp [h], fun b hb => p4 s h t0 (by simp) b hb⟩
        · exact ⟨by rw [hTe]; simp [h], fun b hb hb2 => p2 s h b hb2 hb⟩
      have hnew2 : ∀ b, k' = some b → H.size ≤ b ∧ b ≠ H.size := fun b hb => by
        rcases hk4 b hb with h | h
        · exact hb0 b h
        · omega
      have hne : ∀ s, s ∈ A ∨ s ∈ C → ∀ b, s.2 = some b → k' ≠ some b := fun s hs' b hb hb2 => by
        obtain ⟨h1, h2⟩ := hoth s hs'
        rcases hk4 b hb2 with h | h
        · exact h2 b hb h
        · have := ((hE3.own s h1).1.lt b hb).1; omega
      refine hlast (A ++ (((p.1, t0.1.1.2 ++ p.2), v'), k') :: C) H5 ⟨?_, fun t ht => ?_, ?_, ?_⟩ ?_ ((f23.up f4 (fun x hx => .inr (hkl x hx).2.2.1)).up f5 (fun x hx => by rw [List.mem_singleton] at hx; subst hx; exact .inr (Nat.le_refl _))) (by omega)
      · rw [g4] at hm5
        rw [List.map_append, List.map_cons]
        exact hm5
      · have hcase : (t ∈ A ∨ t ∈ C) ∨ t = (((p.1, t0.1.1.2 ++ p.2), v'), k') := by
          simp only [List.mem_append, List.mem_cons] at ht
          rcases ht with h | h | h
          · exact .inl (.inl h)
          · exact .inr h
          · exact .inl (.inr h)
        rcases hcase with h | h
        · obtain ⟨h1, h2⟩ := hoth t h
          obtain ⟨h3, h4⟩ := hE3.own t h1
          exact ⟨ownStr_frm (ownStr_frm h3 f4 (fun x hx e => h2 x e (by simpa using hx))) f5 (hmX h4), h4⟩
        · subst h
          exact ⟨ownStr_frm ho f5 (hmX hnew2), hnew2⟩
      · rw [List.pairwise_append, List.pairwise_cons]
        refine ⟨p1, ⟨fun s hs' b hb hb2 => hne s (.inr hs') b hb2 hb, p3⟩, fun s hs' t ht b hb => ?_⟩
        rcases List.mem_cons.1 ht with rfl | ht
        · exact hne s (.inl hs') b hb
        · exact p4 s hs' t (by simp [ht]) b hb
      · have := hE3.nd
        rw [hTe] at this
        simp only [List.map_append, List.map_cons, g1] at this ⊢
        exact this
      · rw [← hT, g3]
        simp
  · have : i = hd.length := by simp at hlt; omega
    subst this
    rw [List.take_length] at hT
    exact ⟨_, T, rfl, hE, hT, f2, Nat.le_refl _⟩
end Go.Cps

/-
  impl.Write of any parts, with any boundary.
  Conditions: the whole is short.
-/
namespace Go.Cps
open Go Go.Proofs

def lenL (hs : List Hdr) : Nat := (linesText (linesOf hs)).length
theorem lenL_cons (p : Hdr) (r : List Hdr) : lenL (p :: r) = (linesText (p.2.map fun v => (p.1, v))).length + lenL r := by
  simp only [lenL, linesOf_cons, linesText_append, List.length_append]
theorem lenL_perm {a b : List Hdr} (h : a.Perm b) : lenL a = lenL b := by
  induction h with
  | nil => rfl
  | cons x _ ih => rw [lenL_cons, lenL_cons, ih]
  | swap x y l => rw [lenL_cons, lenL_cons, lenL_cons, lenL_cons]; omega
  | trans _ _ h1 h2 => exact h1.trans h2
theorem lenL_addM (k : List UInt8) (vs : List (List UInt8)) : ∀ l : List Hdr, lenL (addM k vs l) = lenL l + (linesText (vs.map fun v => (k, v))).length
  | [] => by simp [addM, lenL_cons, lenL, linesOf, linesText]
  | p :: r => by
    simp only [addM]
    split
    · rename_i hk
      rw [lenL_cons, lenL_cons, List.map_append, linesText_append, List.length_append, hk]
      omega
    · rw [lenL_cons, lenL_cons, lenL_addM k vs r]
      omega
theorem lenL_hdrG (hd : List Hdr) : lenL (hdrG hd) = lenL hd := by
  have : ∀ (l acc : List Hdr), lenL (l.foldl (fun acc p => addM p.1 p.2 acc) acc) = lenL acc + lenL l := by
    intro l
    induction l with
    | nil => intro acc; simp [lenL, linesOf, linesText]
    | cons p r ih => intro acc; rw [List.foldl_cons, ih, lenL_addM, lenL_cons]; omega
  have := this hd []
  simpa [hdrG, lenL, linesOf, linesText] using this
theorem addM_bounds {k : List UInt8} {vs : List (List UInt8)} {n m : Nat} : ∀ {l : List Hdr}, (∀ p ∈ l, p.2.length ≤ n ∧ p.1.length ≤ m) → k.length ≤ m → (∀ p ∈ addM k vs l, p.2.length ≤ n + vs.length ∧ p.1.length ≤ m) ∧ (addM k vs l).length ≤ l.length + 1
  | [], _, hk => ⟨fun p hp => by simp [addM] at hp; subst hp; exact ⟨by simp, hk⟩, by simp [addM]⟩
  | q :: r, h, hk => by
    simp only [addM]
    have hq := h q (by simp)
    split
    · refine ⟨fun p hp => ?_, by simp⟩
      rcases List.mem_cons.1 hp with rfl | hp
      · simp; omega
      · have := h p (by simp [hp]); omega
    · obtain ⟨h1, h2⟩ := addM_bounds (vs := vs) (l := r) (fun p hp => h p (by simp [hp])) hk
      refine ⟨fun p hp => ?_, by simp; omega⟩
      rcases List.mem_cons.1 hp with rfl | hp
      · omega
      · exact h1 p hp
theorem hdrG_bounds {m : Nat} (hd : List Hdr) (h : ∀ p ∈ hd, p.1.length ≤ m) : (∀ p ∈ hdrG hd, p.2.length ≤ (linesOf hd).length ∧ p.1.length ≤ m) ∧ (hdrG hd).length ≤ hd.length := by
  have : ∀ (l acc : List Hdr) (n : Nat), (∀ p ∈ l, p.1.length ≤ m) → (∀ p ∈ acc, p.2.length ≤ n ∧ p.1.length ≤ m) → (∀ p ∈ l.foldl (fun acc p => addM p.1 p.2 acc) acc, p.2.length ≤ n + (linesOf l).length ∧ p.1.length ≤ m) ∧ (l.foldl (fun acc p => addM p.1 p.2 acc) acc).length ≤ acc.length + l.length := by
    intro l
    induction l with
    | nil => intro acc n _ h; exact ⟨fun p hp => by simpa [linesOf] using h p hp, by simp⟩
    | cons q r ih =>
      intro acc n hl ha
      obtain ⟨h1, h2⟩ := addM_bounds (k := q.1) (vs := q.2) ha (hl q (by simp))
      obtain ⟨h3, h4⟩ := ih (addM q.1 q.2 acc) (n + q.2.length) (fun p hp => hl p (by simp [hp])) h1
      refine ⟨fun p hp => ?_, by simp only [List.foldl_cons, List.length_cons]; omega⟩
      have := h3 p hp
      have e : (linesOf (q :: r)).length = q.2.length + (linesOf r).length := by simp [linesOf]
      omega
  obtain ⟨h1, h2⟩ := this hd [] 0 h (by simp)
  exact ⟨fun p hp => by have := h1 p hp; omega, by simpa [hdrG] using h2⟩
theorem linesOf_take (hd : List Hdr) (n : Nat) : (linesOf (hd.take n)).length ≤ (linesOf hd).length := by
  conv => rhs; rw [← List.take_append_drop n hd, linesOf_append, List.length_append]
  omega
theorem sortHs_asc {l : List Hdr} (h : (l.map (·.1)).Nodup) : ((sortHs l).map (·.1)).Pairwise (· < ·) := by
  have h1 := sortHs_sorted l
  have h2 : ((sortHs l).map (·.1)).Nodup := ((sortHs_perm l).map (·.1)).symm.nodup h
  have h3 : ((sortHs l).map (·.1)).Pairwise (· ≤ ·) := List.pairwise_map.2 h1
  exact (h3.and h2).imp fun ⟨a, b⟩ => Std.lt_of_le_of_ne a b
theorem OEnts.toG {B : Nat} {D : List Nat} {H : Heap} {m : Nat} {T : List OEnt} (h : OEnts B H m T) (hD : ∀ x ∈ D, x < B) (hm : B ≤ m) : EntsG D H m (T.map (·.1)) where
  map := by
    have := h.map
    rw [List.map_map]
    exact this
  md := ⟨fun hx => by have := hD m hx; omega, by obtain ⟨_, _, hh, _⟩ := h.map; exact lt_of_some hh⟩
  strs := fun g hg => by
    obtain ⟨t, ht, rfl⟩ := List.mem_map.1 hg
    obtain ⟨h1, h2⟩ := h.own t ht
    cases hk : t.2 with
    | none => rw [hk] at h1; exact .inr ⟨none, h1⟩
    | some b =>
      rw [hk] at h1
      obtain ⟨cells, c, e, hb, hc, hl, hD', he⟩ := h1
      have h1' : OwnS 1 9 StrR D H (some b) t.1.2 t.1.1.2 := ⟨cells, c, e, hb, hc, hl, fun hx => by have := hD b hx; have := (h2 b hk).1; omega, he⟩
      exact h1'.slV strR_ok

/-- what a part costs at the most -/
def costP (p : PartL) : Nat := lenL p.1 + p.2.length + 90
theorem writeAny_ok {v : Value} {bd : List UInt8} {l : List PartL} {H : Heap} (hv : PartsV [] H v l) (hbl : bd.length < 2 ^ 40) (hl : (l.map costP).sum < 2 ^ 39 - 2 ^ 20) (hn : l.length < 2 ^ 40) (hh : ∀ p ∈ l, p.1.length < 2 ^ 29 ∧ (linesOf p.1).length < 2 ^ 34 ∧ ∀ q ∈ p.1, q.1.length < 2 ^ 38) :
    CallsH Tryz.prog 10 #[strVal bd, v] H fun x H' => ∃ y ok, x = .tuple #[y, .bool ok] ∧ isOne y = true ∧ Frm [] H H' := by
  apply s10
  unfold c10
  rw [New]
  simp only [Fld_ptr, add_mk, Nat.zero_add, List.getElem?_toArray, List.getElem?_cons_succ, List.getElem?_cons_zero, Get_some, Br_true, Br_false, nth_zero, nth_one, nth_two, extractV_tuple, fieldAddrV_ptr, nilV_ptr, load1V_ptr, pickV_bool, unV_not, lenV_slice, capV_slice]
  generalize hH1 : H.push (.cells #[(.slice none 0 0), (.int .i64 0), (.int .i8 0)] 55 (0, 0)) = H1
  have f1 : Frm [] H H1 := by rw [← hH1]; exact Frm.push _ _ _
  have b1 : BufAt H.size none [] H1 := ⟨_, 0, by rw [← hH1]; exact push_same _ _, rfl, rfl⟩
  have z1 : H1.size = H.size + 1 := by rw [← hH1]; simp
  refine (newWriter_ok rfl).mono ?_
  rintro x H2 ⟨rfl, rfl⟩
  have f2 : Frm [] H1 (H1.push (.cells #[.iface 58 (.pointer (some ⟨H.size, 0, none⟩)), strVal [], .pointer none] 105 (0, 0))) := Frm.push _ _ _
  have b2 := b1.frm f2 (by simp) (by simp)
  have w2 : WrAt H1.size (.iface 58 (.pointer (some ⟨H.size, 0, none⟩))) [] (.pointer none) (H1.push (.cells #[.iface 58 (.pointer (some ⟨H.size, 0, none⟩)), strVal [], .pointer none] 105 (0, 0))) := push_same _ _
  refine (setBoundary_any w2 hbl).mono ?_
  rintro x H3 (⟨rfl, hb, w3, f3⟩ | ⟨ae, rfl, _, f3⟩)
  rotate_right
  · have hne : nilV2 .neq .nilIface (.iface 138 (.pointer (some ae))) = some (.bool true) := rfl
    simp only [hne, Fld_ptr, add_mk, Nat.zero_add, List.getElem?_toArray, List.getElem?_cons_succ, List.getElem?_cons_zero, Get_some, Br_true, Br_false, nth_zero, nth_one, nth_two, extractV_tuple, fieldAddrV_ptr, nilV_ptr, load1V_ptr, pickV_bool, unV_not, lenV_slice, capV_slice]
    exact ⟨_, _, rfl, rfl, (f1.trans f2).trans f3⟩
  have hlen := hb.len
  have b3 := b2.frm f3 (by simp; omega) (by simp)
  have f13 : Frm [] H H3 := (f1.trans f2).up f3 (fun x hx => by rw [List.mem_singleton] at hx; subst hx; exact .inr (by omega))
  have ws3 : WS H.size H.size H1.size bd none none [] H3 := ⟨b3, w3, by simp, ⟨Nat.le_refl _, by omega, by simp, by simp⟩, ⟨by omega, by simp, by simp, by simp⟩⟩
  simp only [nilV2_neq_nil, Fld_ptr, add_mk, Nat.zero_add, List.getElem?_toArray, List.getElem?_cons_succ, List.getElem?_cons_zero, Get_some, Br_true, Br_false, nth_zero, nth_one, nth_two, extractV_tuple, fieldAddrV_ptr, nilV_ptr, load1V_ptr, pickV_bool, unV_not, lenV_slice, capV_slice, hv.len]
  refine ⟨fun n vs H' => ∃ i acc k last, vs = [.int .i64 (i : Nat)] ∧ n = l.length - i ∧ i ≤ l.length ∧ WS H.size H.size H1.size bd k last acc H' ∧ Frm [] H H' ∧ acc.length ≤ ((l.take i).map costP).sum, ⟨_, 0, [], none, none, rfl, rfl, Nat.zero_le _, ws3, f13, by simp⟩, ?_⟩
  rintro n vs H4 ⟨i, acc, k, last, rfl, rfl, hi, ws4, f4, hacc⟩
  simp only [Fld_ptr, add_mk, Nat.zero_add, List.getElem?_toArray, List.getElem?_cons_succ, List.getElem?_cons_zero, Get_some, Br_true, Br_false, nth_zero, nth_one, nth_two, extractV_tuple, fieldAddrV_ptr, nilV_ptr, load1V_ptr, pickV_bool, unV_not, lenV_slice, capV_slice, arithV_add, arithV_sub, arithV_eql, arithV_neq, arithV_lss, arithV_leq, arithV_gtr, arithV_geq, intConvV_int, dec_lt]
  refine Br_intro (fun hlt => ?_) (fun hlt => ?_)
  · have hlt' : i < l.length := by simpa using hlt
    obtain ⟨a, vs, ha, hlo, _, hR⟩ := hv.elem2 f4 hlt'
    obtain ⟨y, z, rfl, hy, hz⟩ := part_shape hR
    have hhd := hh l[i] (List.getElem_mem hlt')
    have htk : ((l.take (i + 1)).map costP).sum = ((l.take i).map costP).sum + costP l[i] := by
      rw [List.take_succ_eq_append_getElem hlt', List.map_append, List.sum_append]; simp
    have htl : ((l.take (i + 1)).map costP).sum ≤ (l.map costP).sum := by
      conv => rhs; rw [← List.take_append_drop (i + 1) l, List.map_append, List.sum_append]
      omega
    generalize hfe : l[i] = p at *
    have hs4 := f4.size
    have hcost : costP p = lenL p.1 + p.2.length + 90 := rfl
    have hdl : (delimText last bd).length ≤ 76 := by cases last <;> simp [delimText] <;> omega
    have hht : (headText (sortHs (hdrG p.1))).length = lenL p.1 + 2 := by
      have : (headText (sortHs (hdrG p.1))).length = lenL (sortHs (hdrG p.1)) + 2 := by simp [headText, lenL]
      rw [this, lenL_perm (sortHs_perm _), lenL_hdrG]
    have key : ∀ (k' : Option Nat) (q : Nat) (H' : Heap), WS H.size H.size H1.size bd k' (some q) (acc ++ (delimText last bd ++ headText (sortHs (hdrG p.1))) ++ p.2) H' → Frm [] H H' → ∃ n', n' < l.length - i ∧ ∃ i' acc k last, [Value.int .i64 ((i + 1 : Nat) : Int)] = [.int .i64 (i' : Nat)] ∧ n' = l.length - i' ∧ i' ≤ l.length ∧ WS H.size H.size H1.size bd k last acc H' ∧ Frm [] H H' ∧ acc.length ≤ ((l.take i').map costP).sum := by
      intro k' q H' hw hfr
      refine ⟨_, by omega, i + 1, _, k', some q, rfl, rfl, hlt', hw, hfr, ?_⟩
      rw [htk, hcost]
      simp only [List.length_append, hht]
      omega
    simp only [ha, Get_some, hlo]
    refine local2' (K := fun x5 H => _) hy.isOne hz.isOne fun H5 hb5 f5 z5 => ?_
    have f15 := f4.trans f5
    have ws5 := ws4.frm f5 (by simp)
    have hs5 := f15.size
    simp only [Fld_ptr, add_mk, Nat.zero_add, List.getElem?_toArray, List.getElem?_cons_succ, List.getElem?_cons_zero, Get_some, Br_true, Br_false, nth_zero, nth_one, nth_two, extractV_tuple, fieldAddrV_ptr, nilV_ptr, load1V_ptr, pickV_bool, unV_not, lenV_slice, capV_slice, cellH_of hb5]
    obtain ⟨hh1, hh2, hh3⟩ := hhd
    obtain ⟨hgb1, hgb2⟩ := hdrG_bounds (m := 2 ^ 38) p.1 (fun q hq => Nat.le_of_lt (hh3 q hq))
    refine (headerG_ok (hy.frm headR_ok f15 (by simp)) (by omega) (fun n q hq => ?_) (fun q hq => ?_)).mono ?_
    · have h1 := (hdrG_bounds (m := 2 ^ 38) (p.1.take n) (fun q hq => Nat.le_of_lt (hh3 q (List.mem_of_mem_take hq)))).1 q hq
      have := linesOf_take p.1 n
      omega
    · have : q.2.length ≤ (linesOf p.1).length := by
        obtain ⟨A, C, hAC⟩ := List.append_of_mem hq
        rw [hAC]
        simp [linesOf]
        omega
      omega
    rintro x H6 ⟨m, T, rfl, hE, hTm, f6, hm6⟩
    have f16 := f15.trans f6
    have ws6 := ws5.frm f6 (by simp)
    have hs6 := f16.size
    have hlt5 := ws5.lt
    have hb6 := f6.get hb5 (by simp)
    have hGe := hE.toG (D := WS.ids H.size H1.size k last) (fun x hx => by have := (hlt5 x hx).1; exact this) hm6
    have hTm' : (T.map (·.1)).map (·.1) = hdrG p.1 := by rw [List.map_map]; exact hTm
    have hndG : ((hdrG p.1).map (·.1)).Nodup := by
      have := hE.nd
      rw [← hTm, List.map_map]
      exact this
    have hper : ((T.map (·.1)).map (·.1)).Perm (sortHs (hdrG p.1)) := by rw [hTm']; exact (sortHs_perm _).symm
    have hmemG : ∀ g ∈ T.map (·.1), g.1 ∈ hdrG p.1 := fun g hg => by rw [← hTm']; exact List.mem_map_of_mem hg
    refine (createPartG_ok (hs := sortHs (hdrG p.1)) ws6 hs6 hGe (fun x hx => hx) hper (sortHs_asc hndG) (fun g hg => by have := (hgb1 _ (hmemG g hg)).2; omega) (by rw [(sortHs_perm _).length_eq]; omega) (fun g hg => by have := (hgb1 _ (hmemG g hg)).1; omega) ?_).mono ?_
    · rw [hht]; omega
    rintro x H7 ⟨q, k7, rfl, h7, f7, hq7, hk7⟩
    have hlt6 := ws6.lt
    have f17 : Frm [] H H7 := f16.up f7 (fun x hx => .inr (hlt6 x hx).2)
    have hb7 := f7.get hb6 (fun hm => by have := (ws4.lt _ hm).1; omega)
    have c7 : cellH H7 ⟨H4.size, 1, none⟩ = some z := by rw [cellH_of hb7]; rfl
    simp only [Fld_ptr, add_mk, Nat.zero_add, List.getElem?_toArray, List.getElem?_cons_succ, List.getElem?_cons_zero, Get_some, Br_true, Br_false, nth_zero, nth_one, nth_two, extractV_tuple, fieldAddrV_ptr, nilV_ptr, load1V_ptr, pickV_bool, unV_not, lenV_slice, capV_slice, nilV2_neq_nil, c7, fill0, NewSl, nilV_method (ahead103 _)]
    have hz7 := hz.frm f17 (by simp)
    have f8 : Frm [] H7 (H7.push (.cells #[] 5 (0, 0))) := Frm.push _ _ _
    have h0b : IsBytes (H7.push (.cells #[] 5 (0, 0))) (.slice (some ⟨H7.size, 0, none⟩) 0 0) [] := .inr ⟨_, rfl, rfl⟩
    generalize H7.push (.cells #[] 5 (0, 0)) = H8 at *
    have hb8 := f8.get hb7 (by simp)
    have hz8 := hz7.frm f8 (by simp)
    have ws8 := h7.frm f8 (by simp)
    have f18 := f17.trans f8
    have hlt8 := ws8.lt
    have hs8 := f18.size
    have hob4 := (ws4.lt H.size (by simp [WS.ids])).1
    have hs45 := f5.size
    have hs56 := f6.size
    have hs67 := f7.size
    have hlen8 : (acc ++ (delimText last bd ++ headText (sortHs (hdrG p.1)))).length + p.2.length < 2 ^ 39 := by simp only [List.length_append, hht]; omega
    refine ⟨⟨by rw [cellH_of hb8]; rfl, trivial⟩, ?_⟩
    refine append_empty hz8.1 (by omega) (fun h0 => ?_) (fun c H9 hc hr f9 z9 _ => ?_)
    · refine invoke_of 212 meth103 body212 ?_
      refine (partWrite_ok (d := []) ws8 h0b (fun y hy => ?_) (by rw [List.length_nil]; omega) hs8).mono ?_
      · simp only [blk, Option.some.injEq] at hy
        subst hy
        exact Nat.ne_of_gt (by omega)
      rintro x H9 ⟨rfl, k9, h9, f9, hk9⟩
      simp only [Fld_ptr, add_mk, Nat.zero_add, List.getElem?_toArray, List.getElem?_cons_succ, List.getElem?_cons_zero, Get_some, Br_true, Br_false, nth_zero, nth_one, nth_two, extractV_tuple, fieldAddrV_ptr, nilV_ptr, load1V_ptr, pickV_bool, unV_not, lenV_slice, capV_slice, nilV2_neq_nil, inc_i64 (show i < 2 ^ 62 by omega)]
      exact key k9 q H9 (by rw [h0]; exact h9) (f18.up f9 (fun x hx => .inr (hlt8 x (WS.sub' x hx)).2))
    · have hx9 : IsBytes H9 (.slice (some ⟨H8.size, 0, none⟩) p.2.length c) p.2 := by
        have := hr.bytes (o := 0) (c := c) (n := p.2.length) (by simp) hc
        rwa [List.drop_zero, List.take_length] at this
      have ws9 := ws8.frm f9 (by simp)
      have hlt9 := ws9.lt
      have f19 := f18.trans f9
      refine invoke_of 212 meth103 body212 ?_
      refine (partWrite_ok (d := p.2) ws9 hx9 (fun y hy => ?_) (by omega) f19.size).mono ?_
      · simp [blk] at hy
        have := f8.size
        omega
      rintro x H10 ⟨rfl, k10, h10, f10, hk10⟩
      simp only [Fld_ptr, add_mk, Nat.zero_add, List.getElem?_toArray, List.getElem?_cons_succ, List.getElem?_cons_zero, Get_some, Br_true, Br_false, nth_zero, nth_one, nth_two, extractV_tuple, fieldAddrV_ptr, nilV_ptr, load1V_ptr, pickV_bool, unV_not, lenV_slice, capV_slice, nilV2_neq_nil, inc_i64 (show i < 2 ^ 62 by omega)]
      exact key k10 q H10 h10 (f19.up f10 (fun x hx => .inr (hlt9 x (WS.sub' x hx)).2))
  · have hge : i = l.length := by have : ¬ i < l.length := by simpa using hlt
                                  omega
    rw [hge, List.take_length] at hacc
    refine (close_ok ws4 (by omega)).mono ?_
    rintro x H5 ⟨rfl, k5, b5, f5⟩
    refine (bufBytes_ok b5).mono ?_
    rintro x H6 ⟨hx, hblk, rfl⟩
    simp only [nilV2_eql_nil, Fld_ptr, add_mk, Nat.zero_add, List.getElem?_toArray, List.getElem?_cons_succ, List.getElem?_cons_zero, Get_some, Br_true, Br_false, nth_zero, nth_one, nth_two, extractV_tuple, fieldAddrV_ptr, nilV_ptr, load1V_ptr, pickV_bool, unV_not, lenV_slice, capV_slice]
    have hf : Frm [] H H6 := f4.up f5 (fun x hx => .inr (ws4.lt x hx).2)
    exact ⟨_, _, rfl, by rcases hx with ⟨b, o, c, rfl, _⟩ | ⟨a', rfl, _⟩ <;> rfl, hf⟩
end Go.Cps

/-
  FnNested, apart from any world.
  Conditions: few parts, short.
-/
namespace Go.Cps
open Go Go.Proofs

theorem bytV_self {H : Heap} {v : Value} {l : List UInt8} (h : IsBytes H v l) : BytV [] H v l := by
  refine ⟨h, fun h0 b hb => ⟨by simp, ?_⟩⟩
  rcases h with ⟨b', o, c, rfl, h1, h2⟩ | ⟨a, rfl, rfl⟩
  · simp only [blk, Option.some.injEq] at hb
    subst hb
    have hp : 0 < l.length := List.length_pos_iff.2 h0
    have := h2 0 hp
    rw [List.getElem?_eq_getElem hp] at this
    have hc : cellH H ⟨b', o + 0, none⟩ = some (byteV l[0]) := this
    rcases Nat.lt_or_ge b' H.size with h | h
    · exact h
    · simp [cellH, Array.getElem?_eq_none h] at hc
  · exact absurd rfl h0
theorem parts1 {D : List Nat} {H : Heap} {b : Nat} {y z : Value} {p : PartL} (h : H[b]? = some (.cells #[y, z] 39 (0, 0))) (hb : b ∉ D) (hy : HeadsV D H y p.1) (hz : BytV D H z p.2) : PartsV D H (.slice (some ⟨b, 0, none⟩) 1 1) [p] :=
  .inl ⟨b, 0, 1, rfl, by simp, hb, lt_of_some h, fun j hj => ⟨[y, z], rfl, by
    have : j = 0 := by simpa using hj
    subst this
    exact ⟨y, z, rfl, hy, hz⟩, fun i hi => by
    have : j = 0 := by simpa using hj
    subst this
    rw [cellH_of h]
    rcases i with _ | _ | i
    · rfl
    · rfl
    · omega⟩⟩

/-- the letters of keys, the lines -/
def keysN (l : List PartL) : Nat := (l.map fun p => (p.1.map fun q => q.1.length).sum).sum
def linesN (l : List PartL) : Nat := (l.map fun p => (linesOf p.1).length).sum
theorem lines_key {k : List UInt8} : ∀ vs : List (List UInt8), (linesText (vs.map fun v => (k, v))).length ≤ k.length * vs.length + 4 * (vs.map fun s => s.length + 1).sum
  | [] => by simp [linesText]
  | v :: vs => by
    have ih := lines_key (k := k) vs
    simp only [linesText, List.map_cons, List.flatMap_cons, List.length_append, lineOf, List.length_cons, List.length_nil, List.sum_cons, Nat.mul_add, Nat.mul_one] at *
    omega
theorem lenL_le (hd : List Hdr) : lenL hd ≤ (hd.map fun q => q.1.length).sum * (linesOf hd).length + 4 * (hd.map bulkH).sum := by
  induction hd with
  | nil => simp [lenL, linesOf, linesText]
  | cons p r ih =>
    have h1 := lines_key (k := p.1) p.2
    rw [lenL_cons]
    have e : (linesOf (p :: r)).length = p.2.length + (linesOf r).length := by simp [linesOf]
    simp only [List.map_cons, List.sum_cons, e, bulkH]
    have h2 : p.1.length * p.2.length + (r.map fun q => q.1.length).sum * (linesOf r).length ≤ (p.1.length + (r.map fun q => q.1.length).sum) * (p.2.length + (linesOf r).length) := by
      rw [Nat.add_mul, Nat.mul_add, Nat.mul_add]; omega
    omega
theorem cost_le (l : List PartL) : (l.map costP).sum ≤ keysN l * linesN l + 100 * (l.map bulkP).sum := by
  induction l with
  | nil => simp
  | cons p r ih =>
    have h1 := lenL_le p.1
    simp only [keysN, linesN, List.map_cons, List.sum_cons, costP, bulkP] at *
    have h2 : (p.1.map fun q => q.1.length).sum * (linesOf p.1).length + (r.map fun p => (p.1.map fun q => q.1.length).sum).sum * (r.map fun p => (linesOf p.1).length).sum ≤ ((p.1.map fun q => q.1.length).sum + (r.map fun p => (p.1.map fun q => q.1.length).sum).sum) * ((linesOf p.1).length + (r.map fun p => (linesOf p.1).length).sum) := by
      rw [Nat.add_mul, Nat.mul_add, Nat.mul_add]; omega
    omega
theorem keys_lines (l : List PartL) : keysN l + linesN l ≤ (l.map bulkP).sum := by
  have hv : ∀ vs : List (List UInt8), vs.length ≤ (vs.map fun s => s.length + 1).sum := by
    intro vs
    induction vs with
    | nil => simp
    | cons s vs ih => simp only [List.length_cons, List.map_cons, List.sum_cons]; omega
  have hh : ∀ hd : List Hdr, (hd.map fun q => q.1.length).sum + (linesOf hd).length ≤ (hd.map bulkH).sum := by
    intro hd
    induction hd with
    | nil => simp [linesOf]
    | cons q r ih =>
      have e : (linesOf (q :: r)).length = q.2.length + (linesOf r).length := by simp [linesOf]
      have := hv q.2
      simp only [List.map_cons, List.sum_cons, e, bulkH] at *
      omega
  induction l with
  | nil => simp [keysN, linesN]
  | cons p r ih =>
    have := hh p.1
    simp only [keysN, linesN, List.map_cons, List.sum_cons, bulkP] at *
    omega
theorem cost_small {l : List PartL} (h : (l.map bulkP).sum ≤ 2 ^ 20) : (l.map costP).sum < 2 ^ 39 - 2 ^ 20 := by
  have h1 := cost_le l
  have h2 := keys_lines l
  have h3 : keysN l * linesN l ≤ 2 ^ 20 * 2 ^ 18 := by
    have h4 : 4 * (keysN l * linesN l) ≤ (keysN l + linesN l) * (keysN l + linesN l) := by
      rcases Nat.le_total (keysN l) (linesN l) with h | h
      · obtain ⟨d, hd⟩ := Nat.exists_eq_add_of_le h
        rw [hd]
        simp only [Nat.add_mul, Nat.mul_add]
        have := Nat.mul_comm (keysN l) d
        omega
      · obtain ⟨d, hd⟩ := Nat.exists_eq_add_of_le h
        rw [hd]
        simp only [Nat.add_mul, Nat.mul_add]
        have := Nat.mul_comm (linesN l) d
        omega
    have h5 : (keysN l + linesN l) * (keysN l + linesN l) ≤ 2 ^ 20 * 2 ^ 20 := Nat.mul_le_mul (by omega) (by omega)
    omega
  omega

/-- what Write gives, in one statement -/
theorem writeBoth_ok {v : Value} {bd : List UInt8} {l : List PartL} {H : Heap} (hv : PartsV [] H v l) (hbl : bd.length < 2 ^ 38) (hs : (l.map bulkP).sum ≤ 2 ^ 20) :
    CallsH Tryz.prog 10 #[strVal bd, v] H fun x H' => ∃ y ok, x = .tuple #[y, .bool ok] ∧ isOne y = true ∧ Frm [] H H' ∧ ((∀ p ∈ l, GoodPart bd p) → BdOk bd → ok = true ∧ IsBytes H' y (wholeT bd none (l.map partInL)) ∧ (wholeT bd none (l.map partInL)).length < 2 ^ 32) := by
  obtain ⟨hn, hsm⟩ := bulk_small hs
  by_cases hg : (∀ p ∈ l, GoodPart bd p) ∧ BdOk bd
  · obtain ⟨hg, hok⟩ := hg
    have hlen := hok.len
    have hwl : (wholeT bd none (l.map partInL)).length < 2 ^ 32 := by
      have := whole_len' hg
      have h2 : l.length * (10 + bd.length) ≤ 2 ^ 20 * 80 := Nat.mul_le_mul hn (by omega)
      omega
    refine (write_ok hv hok (by omega) (by omega) (fun p hp => (hg p hp).head.asc')).mono ?_
    rintro x H' ⟨y, rfl, hx, f⟩
    exact ⟨y, true, rfl, by rcases hx with ⟨b, o, c, rfl, _⟩ | ⟨a', rfl, _⟩ <;> rfl, f, fun _ _ => ⟨rfl, hx, hwl⟩⟩
  · have hk := keys_lines l
    refine (writeAny_ok hv (by omega) (cost_small hs) (by omega) (fun p hp => ?_)).mono ?_
    · obtain ⟨a1, a2, a3⟩ := hsm p hp
      have h1 := lines_len (hd := p.1)
      have h2 := le_sumOf (f := bulkP) hp
      have e1 : bulkP p = (p.1.map bulkH).sum + p.2.length + 1 := rfl
      exact ⟨by omega, by omega, fun q hq => by have := (a3 q hq).1; omega⟩
    rintro x H' ⟨y, ok, rfl, h1, f⟩
    exact ⟨y, ok, rfl, h1, f, fun h2 h3 => absurd ⟨h2, h3⟩ hg⟩
end Go.Cps
