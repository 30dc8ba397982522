/-
  A part of the proof: slices.Insert of one header. spec.CanonHead, spec.CanonParts. spec.SameHead, spec.Same. FnExactForm, apart from any world. FnRound, apart from any world.
  Conditions: each contract's own.
-/
import Derived.Test.YtfajmapajpfocaaGreatDoorF22
import Derived.Test.YtfajmapajpfocaaGreatDoorF24
import Derived.Test.YtfajmapajpfocaaGreatDoorF26
import Derived.Test.YtfajmapajpfocaaGreatDoorF28
import Derived.Test.YtfajmapajpfocaaGreatDoorF29
import Derived.Test.YtfajmapajpfocaaGreatDoorF30
set_option linter.all false
namespace Go.Cps
open Go Go.Proofs
theorem info90 : (Tryz.prog.info? 90).isSome = true := by kernel_rfl
theorem overlaps_run {b b' o o' n n' c c' : Nat} {cs cs' : Array Value} {T T' : TypeId} (ps rs : Array TypeId) (hp : ps[0]? = some 37) (w : World) (hne : b ≠ b') (hb : w.heap[b]? = some (.cells cs T (0, 0))) (hb' : w.heap[b']? = some (.cells cs' T' (0, 0))) :
    (Extern.SlicesOverlaps.overlaps ps rs #[.slice (some ⟨b, o, none⟩) n c, .slice (some ⟨b', o', none⟩) n' c']).run Tryz.prog w = .ok (.bool false) w := by
  obtain ⟨i, hi⟩ := Option.isSome_iff_exists.1 info90
  obtain ⟨s, hs⟩ : ∃ s : Sem Value, Extern.SlicesOverlaps.overlaps ps rs #[.slice (some ⟨b, o, none⟩) n c, .slice (some ⟨b', o', none⟩) n' c'] = s := ⟨_, rfl⟩
  rw [hs]
  rw [Extern.SlicesOverlaps.overlaps.eq_1] at hs
  conv at hs => lhs; whnf
  rw [hp] at hs
  subst hs
  by_cases h0 : n = 0 ∨ n' = 0 ∨ i.size = 0
  · simp [run_underlying' Tryz.underlying37, sizeOf, typeInfo, hi, h0]
  · simp [run_underlying' Tryz.underlying37, sizeOf, typeInfo, hi, h0, hne, World.frozen?, hb, hb', noView, viewAt, World.shape?, mayBeOne, stringish]
theorem overlaps_ok {b b' o o' n n' c c' : Nat} {cs cs' : Array Value} {T T' : TypeId} {H : Heap} {K : Value → Heap → Prop} (hne : b ≠ b') (hb : H[b]? = some (.cells cs T (0, 0))) (hb' : H[b']? = some (.cells cs' T' (0, 0))) (hK : K (.bool false) H) :
    CallX Tryz.prog 99 #[.slice (some ⟨b, o, none⟩) n c, .slice (some ⟨b', o', none⟩) n' c'] H K := by
  refine ⟨Tryz.f99, Extern.SlicesOverlaps.overlaps Tryz.f99.params Tryz.f99.resultTypes, Tryz.func99, by kernel_rfl, by kernel_rfl, by kernel_rfl, by kernel_rfl, ?_⟩
  intro w hw
  subst hw
  rw [overlaps_run _ _ (by kernel_rfl) w hne hb hb']
  exact ⟨Same.refl w, hK⟩
theorem elems_cells {w b' o' n c' m : Nat} {cs' : Array Value} {T' : TypeId} {f' : Nat × Nat} {H : Heap} (hb' : H[b']? = some (.cells cs' T' f')) (h1 : o' + m * w ≤ cs'.size) : elemsV w m (.slice (some ⟨b', o', none⟩) n c') H = some ((cs'.toList.drop o').take (m * w)) := by
  simp only [elemsV]
  refine (cellsH_getElem _ _ _).2 ⟨by simp; omega, fun j hj => ?_⟩
  rw [Nat.zero_add, cellH_of hb', List.getElem?_take, if_pos hj, List.getElem?_drop, Array.getElem?_toList]
theorem copy_cells {w : Nat} {b o b' o' n dl dc c' : Nat} {cs cs' : Array Value} {T T' : TypeId} {f' : Nat × Nat} {H : Heap} {K : Value → Heap → Prop} {m : Nat} (hm : Nat.min n dl = m) (hb : H[b]? = some (.cells cs T (0, 0))) (hb' : H[b']? = some (.cells cs' T' f')) (h1 : o' + m * w ≤ cs'.size) (h2 : o + m * w ≤ cs.size)
    (hone : ∀ v ∈ ((cs'.toList.drop o').take (m * w)), isOne v = true) (hK : ∀ x, K x (upd H b (.cells (putAt cs o ((cs'.toList.drop o').take (m * w))) T (0, 0)))) :
    Copy w (.slice (some ⟨b, o, none⟩) dl dc) (.slice (some ⟨b', o', none⟩) n c') H K := by
  have hel : elemsV w m (.slice (some ⟨b', o', none⟩) n c') H = some ((cs'.toList.drop o').take (m * w)) := by
    simp only [elemsV]
    refine (cellsH_getElem _ _ _).2 ⟨by simp; omega, fun j hj => ?_⟩
    rw [Nat.zero_add, cellH_of hb', List.getElem?_take, if_pos hj, List.getElem?_drop, Array.getElem?_toList]
  refine ⟨_, dl, dc, n, _, rfl, rfl, by rw [hm]; exact hel, ?_⟩
  have hst := stores_upd ((cs'.toList.drop o').take (m * w)) H b o 0 cs T hb (by simp; omega) hone
  exact ⟨_, hst, hK _⟩
theorem ins_own {D : List Nat} {H H' : Heap} {g g' c' : Nat} {cells F : Array Value} {l : List Hdr} {p : Hdr} {xs : List Value} {i : Nat} (hF : H'[g']? = some (.cells F 90 (0, 0))) (hFs : F.size = c' * 2) (hc : l.length + 1 ≤ c') (hi : i ≤ l.length) (hgD : g' ∉ D)
    (he : ∀ j (hj : j < l.length), ∃ vs : List Value, vs.length = 2 ∧ HeadR (g :: D) H l[j] vs ∧ ∀ i, i < 2 → cells[j * 2 + i]? = vs[i]?) (hR : ∀ q vs, HeadR (g :: D) H q vs → HeadR (g' :: D) H' q vs) (hp : HeadR (g' :: D) H' p xs) (hxl : xs.length = 2)
    (h1 : ∀ q, q < 2 * i → F[q]? = cells[q]?) (h2 : ∀ q, q < 2 → F[2 * i + q]? = xs[q]?) (h3 : ∀ q, 2 * i ≤ q → q < 2 * l.length → F[q + 2]? = cells[q]?) :
    OwnS 2 90 HeadR D H' (some g') (.slice (some ⟨g', 0, none⟩) (l.length + 1) c') (l.take i ++ p :: l.drop i) := by
  have hlen : (l.take i ++ p :: l.drop i).length = l.length + 1 := by simp; omega
  refine ⟨F, c', by rw [hlen], hF, hFs, by omega, hgD, fun j hj => ?_⟩
  rw [hlen] at hj
  have hti : (l.take i).length = i := by rw [List.length_take]; omega
  by_cases hji : j < i
  · obtain ⟨vs, g1, g2, g3⟩ := he j (by omega)
    refine ⟨vs, g1, ?_, fun a ha => ?_⟩
    · rw [List.getElem_append_left (by omega), List.getElem_take]; exact hR _ _ g2
    · rw [h1 _ (by omega)]; exact g3 a ha
  · by_cases hje : j = i
    · subst hje
      refine ⟨xs, hxl, ?_, fun a ha => ?_⟩
      · rw [List.getElem_append_right (by omega)]
        simpa [hti] using hp
      · rw [show j * 2 + a = 2 * j + a by omega]; exact h2 a ha
    · obtain ⟨vs, g1, g2, g3⟩ := he (j - 1) (by omega)
      refine ⟨vs, g1, ?_, fun a ha => ?_⟩
      · rw [List.getElem_append_right (by omega)]
        have e : j - (l.take i).length = (j - 1 - i) + 1 := by omega
        simp only [e, List.getElem_cons_succ, List.getElem_drop]
        have e2 : i + (j - 1 - i) = j - 1 := by omega
        simp only [e2]
        exact hR _ _ g2
      · have := h3 ((j - 1) * 2 + a) (by omega) (by omega)
        rw [show j * 2 + a = (j - 1) * 2 + a + 2 by omega, this]
        exact g3 a ha
theorem drop_take_get (l : List Value) (o n q : Nat) (h : q < n) : ((l.drop o).take n)[q]? = l[o + q]? := by
  rw [List.getElem?_take, if_pos h, List.getElem?_drop]
theorem insert_ok {D : List Nat} {H : Heap} {k : Option Nat} {v : Value} {l : List Hdr} {p : Hdr} {xb i : Nat} {x0 x1 : Value} (h : OwnS 2 90 HeadR D H k v l) (hx : H[xb]? = some (.cells #[x0, x1] 90 (0, 0))) (hxk : k ≠ some xb) (hp : HeadR (k.toList ++ D) H p [x0, x1]) (hi : i ≤ l.length) (hl : l.length < 2 ^ 36) (hD : ∀ x ∈ D, x < H.size) :
    CallsH Tryz.prog 79 #[v, .int .i64 i, .slice (some ⟨xb, 0, none⟩) 1 1] H fun x H' => ∃ k', OwnS 2 90 HeadR D H' k' x (l.take i ++ p :: l.drop i) ∧ Frm k.toList H H' ∧ (k' = k ∨ ∃ g, k' = some g ∧ H.size ≤ g) := by
  apply s79
  have hln : lenV (.slice (some ⟨xb, 0, none⟩) 1 1) = some (.int .i64 ((1 : Nat) : Int)) := rfl
  have h10 : (((1 : Nat) : Int) == 0) = false := by decide
  have hil : (((i : Nat) : Int) == ((l.length : Nat) : Int)) = decide (i = l.length) := by
    rw [Bool.eq_iff_iff, beq_iff_eq, decide_eq_true_eq]; omega
  obtain ⟨sv, hsv⟩ : ∃ sv, sliceV 2 v (some (.int .i64 i)) none none = some sv := by
    cases k with
    | none =>
      obtain ⟨rfl, rfl⟩ := h
      have : i = 0 := by simpa using hi
      subst this
      exact ⟨_, sliceV_lo (Nat.le_refl 0) .i64⟩
    | some g =>
      obtain ⟨cells, c, rfl, _⟩ := h
      exact ⟨_, sliceV_lo hi .i64⟩
  simp only [c79, hsv, Q6, hln, Qk, Ql, Qm, Qn, Qo, Qp, Qq, Qr, Qs, h10, Q8, h.len, hil]
  refine Br_intro (fun h1 => ?_) (fun h1 => ?_)
  · have h1' : i = l.length := by simpa using h1
    refine append_one Qx h (xb := xb) (xs := [x0, x1]) (fun q hq => by rw [cellH_of hx]; simp) rfl hp rfl hl (by omega) hD (by omega) fun k' v' H' h' f' hk' => ⟨k', ?_, f', hk'⟩
    rw [h1', List.take_length, List.drop_length]
    exact h'
  have h1' : i < l.length := by
    have : ¬ i = l.length := by simpa using h1
    omega
  cases k with
  | none =>
    obtain ⟨rfl, rfl⟩ := h
    simp at h1'
  | some g =>
    obtain ⟨cells, c, rfl, hg, hc, hlc, hgD, he⟩ := h
    have hcap : capV (.slice (some ⟨g, 0, none⟩) l.length c) = some (.int .i64 c) := rfl
    have e1 : IntKind.i64.wrap ((l.length : Int) + ((1 : Nat) : Int)) = ((l.length + 1 : Nat) : Int) := by rw [wrap_i64 (by omega) (by omega)]; omega
    have e2 : IntKind.i64.wrap (((l.length + 1 : Nat) : Int) - (i : Int)) = ((l.length + 1 - i : Nat) : Int) := by rw [wrap_i64 (by omega) (by omega)]; omega
    have e3 : IntKind.i64.wrap ((i : Int) + ((1 : Nat) : Int)) = ((i + 1 : Nat) : Int) := by rw [wrap_i64 (by omega) (by omega)]; omega
    have dg : decide (((l.length + 1 : Nat) : Int) > (c : Int)) = decide (c < l.length + 1) := by rw [Bool.eq_iff_iff]; simp; omega
    have hone : ∀ o m, ∀ v ∈ ((cells.toList.drop o).take m), o + m ≤ 2 * l.length → isOne v = true := by
      intro o m v hv hom
      obtain ⟨q, hq, rfl⟩ := List.getElem_of_mem hv
      have hqm : q < m := by rw [List.length_take] at hq; omega
      obtain ⟨vs, g1, g2, g3⟩ := he ((o + q) / 2) (by omega)
      have hg3 := g3 ((o + q) % 2) (by omega)
      rw [show (o + q) / 2 * 2 + (o + q) % 2 = o + q by omega] at hg3
      have hmem := drop_take_get cells.toList o m q hqm
      rw [List.getElem?_eq_getElem hq, Array.getElem?_toList, hg3] at hmem
      exact Qx.one g2 _ (List.mem_of_getElem? hmem.symm)
    have hsv' := sliceV_lo (a := some ⟨g, 0, none⟩) (n := l.length) (c := c) (size := 2) (lo := i) hi .i64
    rw [if_neg (by omega)] at hsv'
    obtain rfl := Option.some.inj (hsv.symm.trans hsv')
    simp only [hcap, Qk, Ql, Qm, Qn, Qo, Qp, Qq, Qr, Qs, Q0, Q1, Q2, Q3, Q4, Q5, Q6, Q7, Q8, Q9, Qa, Qb, Qc, Qd, Qe, Qf, Qg, Qh, Qi, Qj, e1, dg]
    refine Br_intro (fun h2 => ?_) (fun h2 => ?_)
    · have h2' : c < l.length + 1 := by simpa using h2
      have hs1 := sliceV_hi (a := some ⟨g, 0, none⟩) (n := l.length) (c := c) (size := 2) (hi := i) (by omega) .i64
      simp only [hs1, Q0, Q1, Q2, Q3, Q4, Q5, Q6, Q7, Q8, Q9, Qa, Qb, Qc, Qd, Qe, Qf, Qg, Qh, Qi, Qj, e2, e3]
      have hnc := nextslicecap_le h2'
      have hin : i + (l.length + 1 - i) = l.length + 1 := by omega
      have holds := elems_cells (w := 2) (b' := g) (o' := 0) (m := i) (n := i) (c' := c) hg (by omega)
      refine ⟨_, i, c, l.length + 1 - i, rfl, rfl, by omega, by omega, by omega, by omega, by omega, by rw [hin]; omega, _, holds, fun c2 hc2 => ?_⟩
      rw [hin] at hc2 ⊢
      rw [List.drop_zero]
      generalize hF0 : ((cells.toList.take (i * 2)).toArray ++ zeros #[.string ⟨#[]⟩, .slice none 0 0] (l.length + 1 - i) ++ zeros #[.string ⟨#[]⟩, .slice none 0 0] (c2 - (l.length + 1))) = F0
      have hF0s : F0.size = c2 * 2 := by
        rw [← hF0]
        simp [zeros, Builtin.zeroCells]
        omega
      have hF0o : ∀ q, q < 2 * i → F0[q]? = cells[q]? := by
        intro q hq
        rw [← hF0, Array.append_assoc, Array.getElem?_append_left (by simp; omega)]
        simp [List.getElem?_take, show q < i * 2 by omega]
      have f1 : Frm [] H (H.push (.cells F0 90 (0, 0))) := Frm.push _ _ _
      have hp1 := push_same H (.cells F0 90 (0, 0))
      have z1 : (H.push (.cells F0 90 (0, 0))).size = H.size + 1 := by simp
      generalize H.push (.cells F0 90 (0, 0)) = H1 at *
      have hs2 := sliceV_lo (a := some ⟨H.size, 0, none⟩) (n := l.length + 1) (c := c2) (size := 2) (lo := i) (by omega) .i64
      have hs3 := sliceV_lo (a := some ⟨H.size, 0, none⟩) (n := l.length + 1) (c := c2) (size := 2) (lo := i + 1) (by omega) .i64
      rw [if_neg (by omega)] at hs2 hs3
      simp only [hs2, hs3, Q6, Option.map_some, Q1, Nat.zero_add]
      have hx1 := f1.get hx (by simp)
      have hg1 := f1.get hg (by simp)
      have hxl := lt_of_some hx
      have hgl := lt_of_some hg
      refine copy_cells (m := 1) (Nat.min_eq_left (by omega)) hp1 hx1 (by simp) (by omega) (fun v hv => Qx.one hp v (by simpa using hv)) fun _ => ?_
      have f2 : Frm [H.size] H1 (upd H1 H.size (.cells (putAt F0 (i * 2) ((#[x0, x1].toList.drop 0).take (1 * 2))) 90 (0, 0))) := Frm.upd _ (by simp)
      have hp2 : (upd H1 H.size (.cells (putAt F0 (i * 2) ((#[x0, x1].toList.drop 0).take (1 * 2))) 90 (0, 0)))[H.size]? = some (.cells (putAt F0 (i * 2) [x0, x1]) 90 (0, 0)) := upd_same (by omega)
      have z2 : (upd H1 H.size (.cells (putAt F0 (i * 2) ((#[x0, x1].toList.drop 0).take (1 * 2))) 90 (0, 0))).size = H1.size := by simp
      generalize upd H1 H.size (.cells (putAt F0 (i * 2) ((#[x0, x1].toList.drop 0).take (1 * 2))) 90 (0, 0)) = H2 at *
      have hg2 := f2.get hg1 (by simp; omega)
      have hml : (l.length + 1 - (i + 1)) = l.length - i := by omega
      refine copy_cells (m := l.length - i) (by rw [hml]; exact Nat.min_self _) hp2 hg2 (by omega) (by rw [putAt_size]; omega) (fun v hv => hone _ _ v hv (by omega)) fun _ => ?_
      generalize hseg : (cells.toList.drop (i * 2)).take ((l.length - i) * 2) = seg
      have hsegl : seg.length = (l.length - i) * 2 := by rw [← hseg]; simp; omega
      have f3 : Frm [H.size] H2 (upd H2 H.size (.cells (putAt (putAt F0 (i * 2) [x0, x1]) ((i + 1) * 2) seg) 90 (0, 0))) := Frm.upd _ (by simp)
      have hp3 : (upd H2 H.size (.cells (putAt (putAt F0 (i * 2) [x0, x1]) ((i + 1) * 2) seg) 90 (0, 0)))[H.size]? = some (.cells (putAt (putAt F0 (i * 2) [x0, x1]) ((i + 1) * 2) seg) 90 (0, 0)) := upd_same (by omega)
      generalize upd H2 H.size (.cells (putAt (putAt F0 (i * 2) [x0, x1]) ((i + 1) * 2) seg) 90 (0, 0)) = H3 at *
      have hnew : ∀ x ∈ [H.size], x ∈ ([] : List Nat) ∨ H.size ≤ x := fun x hx => .inr (by rw [List.mem_singleton] at hx; omega)
      have f13 : Frm [] H H3 := (f1.up f2 hnew).up f3 hnew
      have hle1 : i * 2 + [x0, x1].length ≤ F0.size := by simp; omega
      have hle2 : (i + 1) * 2 + seg.length ≤ (putAt F0 (i * 2) [x0, x1]).size := by rw [putAt_size]; omega
      refine ⟨some H.size, ?_, f13.mono (by simp), .inr ⟨_, rfl, Nat.le_refl _⟩⟩
      have hRn : ∀ q vs, HeadR (g :: D) H q vs → HeadR (H.size :: D) H3 q vs := fun q vs hq =>
        Qx.frm (Qx.new (Qx.sub (fun x hx => by simp [hx]) hq) (Nat.le_refl _)) f13 (by simp)
      refine ins_own hp3 (by rw [putAt_size, putAt_size, hF0s]) hc2 hi (fun hm => by have := hD _ hm; omega) he hRn (hRn _ _ (by simpa using hp)) rfl ?_ ?_ ?_
      · intro q hq
        rw [putAt_old _ _ _ _ (by omega) hle2, putAt_old _ _ _ _ (by omega) hle1]
        exact hF0o q hq
      · intro q hq
        rw [putAt_old _ _ _ _ (by omega) hle2, show 2 * i + q = i * 2 + q by omega, putAt_new _ _ _ _ (by simpa using hq) hle1]
      · intro q hq1 hq2
        rw [show q + 2 = (i + 1) * 2 + (q - 2 * i) by omega, putAt_new _ _ _ _ (by omega) hle2, ← hseg, drop_take_get _ _ _ _ (by omega), Array.getElem?_toList]
        congr 1
        omega
    · have h2' : l.length + 1 ≤ c := by have : ¬ c < l.length + 1 := by simpa using h2
                                        omega
      have hs1 := sliceV_hi (a := some ⟨g, 0, none⟩) (n := l.length) (c := c) (size := 2) (hi := l.length + 1) (by omega) .i64
      have hs2 := sliceV_lo (a := some ⟨g, 0, none⟩) (n := l.length + 1) (c := c) (size := 2) (lo := i + 1) (by omega) .i64
      have hs3 := sliceV_lo (a := some ⟨g, 0, none⟩) (n := l.length + 1) (c := c) (size := 2) (lo := i) (by omega) .i64
      rw [if_neg (by omega)] at hs2 hs3
      simp only [hs1, Q0, Q1, Q2, Q3, Q4, Q5, Q6, Q7, Q8, Q9, Qa, Qb, Qc, Qd, Qe, Qf, Qg, Qh, Qi, Qj, e3, hs2, hs3, Option.map_some, Q1]
      have hxl := lt_of_some hx
      have hgl := lt_of_some hg
      have hgx : xb ≠ g := fun e => hxk (by rw [e])
      refine overlaps_ok hgx hx hg ?_
      simp only [Q0, Q1, Q2, Q3, Q4, Q5, Q6, Q7, Q8, Q9, Qa, Qb, Qc, Qd, Qe, Qf, Qg, Qh, Qi, Qj, Bool.not_false]
      have hml : (l.length + 1 - (i + 1)) = l.length - i := by omega
      refine copy_cells (m := l.length - i) (by rw [hml]; exact Nat.min_eq_right (by omega)) hg hg (by omega) (by omega) (fun v hv => hone _ _ v hv (by omega)) fun _ => ?_
      generalize hseg : (cells.toList.drop (i * 2)).take ((l.length - i) * 2) = seg
      have hsegl : seg.length = (l.length - i) * 2 := by rw [← hseg]; simp; omega
      have f2 : Frm [g] H (upd H g (.cells (putAt cells ((i + 1) * 2) seg) 90 (0, 0))) := Frm.upd _ (by simp)
      have hp2 : (upd H g (.cells (putAt cells ((i + 1) * 2) seg) 90 (0, 0)))[g]? = some (.cells (putAt cells ((i + 1) * 2) seg) 90 (0, 0)) := upd_same hgl
      have z2 : (upd H g (.cells (putAt cells ((i + 1) * 2) seg) 90 (0, 0))).size = H.size := by simp
      generalize upd H g (.cells (putAt cells ((i + 1) * 2) seg) 90 (0, 0)) = H2 at *
      have hx2 := f2.get hx (by simpa using hgx)
      refine copy_cells (m := 1) (Nat.min_eq_left (by omega)) hp2 hx2 (by simp) (by rw [putAt_size]; omega) (fun v hv => Qx.one hp v (by simpa using hv)) fun _ => ?_
      have hxs : (#[x0, x1].toList.drop 0).take (1 * 2) = [x0, x1] := rfl
      rw [hxs]
      have f3 : Frm [g] H2 (upd H2 g (.cells (putAt (putAt cells ((i + 1) * 2) seg) (i * 2) [x0, x1]) 90 (0, 0))) := Frm.upd _ (by simp)
      have hp3 : (upd H2 g (.cells (putAt (putAt cells ((i + 1) * 2) seg) (i * 2) [x0, x1]) 90 (0, 0)))[g]? = some (.cells (putAt (putAt cells ((i + 1) * 2) seg) (i * 2) [x0, x1]) 90 (0, 0)) := upd_same (by omega)
      generalize upd H2 g (.cells (putAt (putAt cells ((i + 1) * 2) seg) (i * 2) [x0, x1]) 90 (0, 0)) = H3 at *
      have f13 : Frm [g] H H3 := f2.trans f3
      have hle1 : (i + 1) * 2 + seg.length ≤ cells.size := by omega
      have hle2 : i * 2 + [x0, x1].length ≤ (putAt cells ((i + 1) * 2) seg).size := by rw [putAt_size]; simp; omega
      refine ⟨some g, ?_, f13, .inl rfl⟩
      have hRn : ∀ q vs, HeadR (g :: D) H q vs → HeadR (g :: D) H3 q vs := fun q vs hq => Qx.frm hq f13 (fun x hx => .inl (by rw [List.mem_singleton] at hx; simp [hx]))
      refine ins_own hp3 (by rw [putAt_size, putAt_size, hc]) h2' hi hgD he hRn (hRn _ _ (by simpa using hp)) rfl ?_ ?_ ?_
      · intro q hq
        rw [putAt_old _ _ _ _ (by omega) hle2, putAt_old _ _ _ _ (by omega) hle1]
      · intro q hq
        rw [show 2 * i + q = i * 2 + q by omega, putAt_new _ _ _ _ (by simpa using hq) hle2]
      · intro q hq1 hq2
        rw [putAt_get _ _ _ _ hle2, if_neg (by simp; omega), show q + 2 = (i + 1) * 2 + (q - 2 * i) by omega, putAt_new _ _ _ _ (by omega) hle1, ← hseg, drop_take_get _ _ _ _ (by omega), Array.getElem?_toList]
        congr 1
        omega
end Go.Cps
namespace Go.Cps
open Go Go.Proofs
def canonP (p : Hdr) : Hdr := (canonG true p.1, p.2)
theorem insert_sorted {l : List Hdr} {x : Hdr} {j : Nat} (h : l.Pairwise fun a b => a.1 ≤ b.1) (hlt : ∀ q ∈ l.take j, q.1 < x.1) (hge : ∀ q, l[j]? = some q → ¬ q.1 < x.1) : (l.take j ++ x :: l.drop j).Pairwise fun a b => a.1 ≤ b.1 := by
  have h' := h
  rw [← List.take_append_drop j l, List.pairwise_append] at h'
  obtain ⟨h1, h2, h3⟩ := h'
  have hxd : ∀ b ∈ l.drop j, x.1 ≤ b.1 := by
    intro b hb
    cases hd : l.drop j with
    | nil => rw [hd] at hb; cases hb
    | cons q r =>
      have hq : l[j]? = some q := by
        have := congrArg (fun l => l[0]?) hd
        simpa [List.getElem?_drop] using this
      have hxq : x.1 ≤ q.1 := by
        have := hge q hq
        exact List.not_lt.1 this
      rw [hd] at hb h2
      rcases List.mem_cons.1 hb with rfl | hb
      · exact hxq
      · exact List.le_trans hxq ((List.pairwise_cons.1 h2).1 b hb)
  rw [List.pairwise_append]
  refine ⟨h1, List.pairwise_cons.2 ⟨hxd, h2⟩, fun a ha b hb => ?_⟩
  rcases List.mem_cons.1 hb with rfl | hb
  · exact List.le_of_lt (hlt a ha)
  · exact h3 a ha b hb
theorem insert_perm {l m : List Hdr} {x : Hdr} {j : Nat} (h : l.Perm m) : (l.take j ++ x :: l.drop j).Perm (m ++ [x]) := by
  refine List.perm_middle.trans ?_
  rw [List.take_append_drop]
  refine (List.Perm.cons x h).trans ?_
  exact (List.perm_append_singleton x m).symm
theorem canonHead_ok {D : List Nat} {v : Value} {hd : List Hdr} {H : Heap} (hv : HeadsV D H v hd) (hl : hd.length < 2 ^ 35) (hD : ∀ x ∈ D, x < H.size) (hls : ∀ p ∈ hd, p.1.length < 2 ^ 38) :
    CallsH Tryz.prog 50 #[v] H fun x H' => (∃ hs : List Hdr, HeadsV D H' x hs ∧ hs.Perm (hd.map canonP) ∧ hs.Pairwise fun a b => a.1 ≤ b.1) ∧ Frm [] H H' := by
  apply s50
  simp only [c50, hv.len, Q0, Q1, Q2, Q3, Q4, Q5, Q6, Q7, Q8, Q9, Qa, Qb, Qc, Qd, Qe, Qf, Qg, Qh, Qi, Qj]
  refine ⟨fun μ vs H1 => ∃ (i : Nat) (k : Option Nat) (out : Value) (hs : List Hdr), vs = [out, .int .i64 i] ∧ μ = hd.length - i ∧ i ≤ hd.length ∧ OwnS 2 90 HeadR D H1 k out hs ∧ hs.Perm ((hd.take i).map canonP) ∧ hs.Pairwise (fun a b => a.1 ≤ b.1) ∧ Frm [] H H1 ∧ ∀ g, k = some g → H.size ≤ g,
    ⟨_, 0, none, _, [], rfl, rfl, Nat.zero_le _, ⟨rfl, rfl⟩, by simp, List.Pairwise.nil, Frm.refl _ _, by simp⟩, ?_⟩
  rintro μ vs H1 ⟨i, k, out, hs, rfl, rfl, hi, hown, hperm, hsort, f1, hk⟩
  simp only [Q0, Q1, Q2, Q3, Q4, Q5, Q6, Q7, Q8, Q9, Qa, Qb, Qc, Qd, Qe, Qf, Qg, Qh, Qi, Qj, Qk, Ql, Qm, Qn, Qo, Qp, Qq, Qr, Qs, dec_lt]
  refine Br_intro (fun hlt => ?_) (fun hlt => ?_)
  · have hlt' : i < hd.length := by simpa using hlt
    have hhl : hs.length = i := by rw [hperm.length_eq, List.length_map, List.length_take]; omega
    have hvk : HeadsV (k.toList ++ D) H v hd := by
      cases k with
      | none => exact hv
      | some g => exact hv.new Qx (hk g rfl)
    obtain ⟨a, vs, ha, hlo, _, hR⟩ := hvk.elem2 f1 hlt'
    obtain ⟨y, rfl, hy⟩ := head_shape hR
    have hpl := hls hd[i] (List.getElem_mem hlt')
    have htk : (hd.take (i + 1)).map canonP = (hd.take i).map canonP ++ [canonP hd[i]] := by
      rw [List.take_succ_eq_append_getElem hlt', List.map_append]; rfl
    generalize hpe : hd[i] = p at *
    simp only [ha, Q6, hlo]
    refine local2' (K := fun x5 H => _) rfl hy.isOne fun H2 hb2 f2 z2 => ?_
    simp only [Q0, Q1, Q2, Q3, Q4, Q5, Q6, Q7, Q8, Q9, Qa, Qb, Qc, Qd, Qe, Qf, Qg, Qh, Qi, Qj, cellH_of hb2]
    refine (canon_ok (by omega)).mono ?_
    rintro x H3 ⟨rfl, f3⟩
    have hb3 := f3.get hb2 (by simp)
    have f13 := (f1.trans f2).trans f3
    have hown3 := (hown.frm Qx f2 (by simp)).frm Qx f3 (by simp)
    have hsl := hown3.slV Qx
    generalize hkey : canonG true p.1 = key at *
    refine ⟨fun μ vs H' => ∃ j : Nat, vs = [.int .i64 j] ∧ μ = hs.length - j ∧ j ≤ hs.length ∧ (∀ q ∈ hs.take j, q.1 < key) ∧ H' = H3, ⟨_, 0, rfl, rfl, Nat.zero_le _, by simp, rfl⟩, ?_⟩
    rintro μ vs H3 ⟨j, rfl, rfl, hj, hjlt, rfl⟩
    refine ⟨fun vs H' => ∃ b : Bool, vs = [.bool b] ∧ (b = true → ∃ hjl : j < hs.length, hs[j].1 < key) ∧ (b = false → ∀ q, hs[j]? = some q → ¬ q.1 < key) ∧ H' = H3, ?_, ?_⟩
    · simp only [Q0, Q1, Q2, Q3, Q4, Q5, Q6, Q7, Q8, Q9, Qa, Qb, Qc, Qd, Qe, Qf, Qg, Qh, Qi, Qj, Qk, Ql, Qm, Qn, Qo, Qp, Qq, Qr, Qs, hown3.len, dec_lt]
      refine Br_intro (fun h1 => ?_) (fun h1 => ?_)
      · have h1' : j < hs.length := by simpa using h1
        obtain ⟨a', vs', ha', _, _, hR', hc'⟩ := hsl.elem h1'
        obtain ⟨y', rfl, _⟩ := head_shape hR'
        have hc1 : cellH H3 (a'.add 0) = some (strVal hs[j].1) := hc' 0 (by omega)
        simp only [ha', Q0, Q1, Q2, Q3, Q4, Q5, Q6, Q7, Q8, Q9, Qa, Qb, Qc, Qd, Qe, Qf, Qg, Qh, Qi, Qj, hc1, strV_lss, if_true]
        refine ⟨_, rfl, fun h2 => ⟨h1', by simpa using h2⟩, fun h2 q hq => ?_, trivial⟩
        rw [List.getElem?_eq_getElem h1'] at hq
        cases hq
        simpa using h2
      · simp only [Q0, Q1, Q2, Q3, Q4, Q5, Q6, Q7, Q8, Q9, Qa, Qb, Qc, Qd, Qe, Qf, Qg, Qh, Qi, Qj, Bool.false_eq_true, if_false]
        refine ⟨false, rfl, fun h => (by cases h), fun _ q hq => ?_, trivial⟩
        have : ¬ j < hs.length := by simpa using h1
        rw [List.getElem?_eq_none (by omega)] at hq
        cases hq
    · rintro _ H3 ⟨b, rfl, hbt, hbf, rfl⟩
      simp only [Q0, Q1, Q2, Q3, Q4, Q5, Q6, Q7, Q8, Q9, Qa, Qb, Qc, Qd, Qe, Qf, Qg, Qh, Qi, Qj]
      refine Br_intro (fun h1 => ?_) (fun h1 => ?_)
      · obtain ⟨hjl, hlt2⟩ := hbt h1
        simp only [inc_i64 (show j < 2 ^ 62 by omega), Qk, Ql, Qm, Qn, Qo, Qp, Qq, Qr, Qs, Q0, Q1, Q2, Q3, Q4, Q5, Q6, Q7, Q8, Q9, Qa, Qb, Qc, Qd, Qe, Qf, Qg, Qh, Qi, Qj]
        refine ⟨_, by omega, j + 1, rfl, rfl, hjl, fun q hq => ?_, trivial⟩
        rw [List.take_succ_eq_append_getElem hjl] at hq
        rcases List.mem_append.1 hq with h | h
        · exact hjlt q h
        · rw [List.mem_singleton] at h; rw [h]; exact hlt2
      · simp only [Q0, Q1, Q2, Q3, Q4, Q5, Q6, Q7, Q8, Q9, Qa, Qb, Qc, Qd, Qe, Qf, Qg, Qh, Qi, Qj, cellH_of hb3, agg2 (a := strVal key) rfl hy.isOne trivial, Option.map_some, fill2]
        refine newSl_of fun H4 hb4 f4 z4 => ?_
        have f14 := f13.trans f4
        have hown4 := hown3.frm Qx f4 (by simp)
        have hkl : ∀ g, k = some g → g < H3.size := fun g hg => (hown3.lt g hg).1
        have hy4 : StrsV (k.toList ++ D) H4 y p.2 := hy.frm Qy f14 (by simp)
        have hs14 := f14.size
        refine (insert_ok (p := (key, p.2)) hown4 hb4 (fun e => by have := hkl _ e; omega) ⟨y, rfl, hy4⟩ hj (by omega) (fun x hx => by have := hD x hx; omega)).mono ?_
        rintro x H5 ⟨k', hown5, f5, hk'⟩
        simp only [inc_i64 (show i < 2 ^ 62 by omega), Qk, Ql, Qm, Qn, Qo, Qp, Qq, Qr, Qs, Q0, Q1, Q2, Q3, Q4, Q5, Q6, Q7, Q8, Q9, Qa, Qb, Qc, Qd, Qe, Qf, Qg, Qh, Qi, Qj]
        refine ⟨_, by omega, i + 1, k', x, _, rfl, rfl, hlt', hown5, ?_, insert_sorted hsort hjlt (hbf h1), f14.up f5 (fun x hx => .inr (hk x (by simpa using hx))), fun g hg => ?_⟩
        · rw [htk]
          have : canonP p = (key, p.2) := by rw [← hkey]; rfl
          rw [this]
          exact insert_perm hperm
        · rcases hk' with e | ⟨g', e, hge⟩
          · exact hk g (by rw [← e, hg])
          · rw [hg] at e; cases e; omega
  · have hie : i = hd.length := by simp at hlt; omega
    subst hie
    rw [List.take_length] at hperm
    exact ⟨⟨hs, hown.slV Qx, hperm, hsort⟩, f1⟩
def canonPart (p : PartL) : PartL := (sortHs (p.1.map canonP), p.2)
theorem canonParts_ok {v : Value} {l : List PartL} {H : Heap} (hv : PartsV [] H v l) (hl : l.length < 2 ^ 35) (hls : ∀ p ∈ l, p.1.length < 2 ^ 35 ∧ ∀ q ∈ p.1, q.1.length < 2 ^ 38) (hnd : ∀ p ∈ l, (p.1.map fun q => canonG true q.1).Nodup) :
    CallsH Tryz.prog 20 #[v] H fun x H' => PartsV [] H' x (l.map canonPart) ∧ Frm [] H H' := by
  apply s20
  simp only [c20, hv.len, Q0, Q1, Q2, Q3, Q4, Q5, Q6, Q7, Q8, Q9, Qa, Qb, Qc, Qd, Qe, Qf, Qg, Qh, Qi, Qj]
  refine ⟨fun μ vs H1 => ∃ (i : Nat) (k : Option Nat) (out : Value), vs = [out, .int .i64 i] ∧ μ = l.length - i ∧ i ≤ l.length ∧ OwnS 2 39 PartR [] H1 k out ((l.take i).map canonPart) ∧ Frm [] H H1 ∧ ∀ g, k = some g → H.size ≤ g, ⟨_, 0, none, _, rfl, rfl, Nat.zero_le _, ⟨rfl, rfl⟩, Frm.refl _ _, by simp⟩, ?_⟩
  rintro μ vs H1 ⟨i, k, out, rfl, rfl, hi, hown, f1, hk⟩
  simp only [Q0, Q1, Q2, Q3, Q4, Q5, Q6, Q7, Q8, Q9, Qa, Qb, Qc, Qd, Qe, Qf, Qg, Qh, Qi, Qj, Qk, Ql, Qm, Qn, Qo, Qp, Qq, Qr, Qs, dec_lt]
  refine Br_intro (fun hlt => ?_) (fun hlt => ?_)
  · have hlt' : i < l.length := by simpa using hlt
    have hvk : PartsV (k.toList ++ []) H v l := by
      cases k with
      | none => exact hv
      | some g => exact hv.new Qw (hk g rfl)
    obtain ⟨a, vs, ha, hlo, _, hR⟩ := hvk.elem2 f1 hlt'
    obtain ⟨y, z, rfl, hy, hz⟩ := part_shape hR
    obtain ⟨hl1, hl2⟩ := hls l[i] (List.getElem_mem hlt')
    have hnd1 := hnd l[i] (List.getElem_mem hlt')
    have htk : (l.take (i + 1)).map canonPart = (l.take i).map canonPart ++ [canonPart l[i]] := by
      rw [List.take_succ_eq_append_getElem hlt', List.map_append]; rfl
    generalize l[i] = p at *
    simp only [ha, Q6, hlo]
    refine local2' (K := fun x5 H => _) hy.isOne hz.isOne fun H2 hb2 f2 z2 => ?_
    have f12 := f1.trans f2
    have hown2 := hown.frm Qw f2 (by simp)
    simp only [Q0, Q1, Q2, Q3, Q4, Q5, Q6, Q7, Q8, Q9, Qa, Qb, Qc, Qd, Qe, Qf, Qg, Qh, Qi, Qj, cellH_of hb2]
    refine (canonHead_ok (D := k.toList ++ []) (hy.frm Qx f12 (by simp)) hl1 (fun x hx => (hown2.lt x (by simpa using hx)).1) hl2).mono ?_
    rintro x H3 ⟨⟨hs, hx, hperm, hsort⟩, f3⟩
    have hb3 := f3.get hb2 (by simp)
    have f13 := f12.trans f3
    have hhs : hs = sortHs (p.1.map canonP) := sortHs_eq hperm (by rw [List.map_map]; exact hnd1) hsort
    rw [hhs] at hx
    have hz3 := hz.frm f13 (by simp)
    have hown3 := hown2.frm Qw f3 (by simp)
    have c3 : cellH H3 ⟨H1.size, 1, none⟩ = some z := by rw [cellH_of hb3]; rfl
    refine ⟨⟨c3, trivial⟩, ?_⟩
    simp only [agg2 hx.isOne hz3.isOne trivial, Option.map_some, Q6, fill2]
    refine newSl_of fun H4 hb4 f4 z4 => ?_
    have hown4 := hown3.frm Qw f4 (by simp)
    have hlk : ((l.take i).map canonPart).length = i := by rw [List.length_map, List.length_take]; omega
    have f14 := f13.trans f4
    refine append_one Qw hown4 (xb := H3.size) (xs := [x, z]) (a := canonPart p) (fun q hq => by rw [cellH_of hb4]; simp) rfl ⟨x, z, rfl, hx.frm Qx f4 (by simp), hz3.frm f4 (by simp)⟩ rfl (by omega) (by omega) (by simp) (by omega) fun k' v' H5 hown5 f5 hk' => ?_
    simp only [inc_i64 (show i < 2 ^ 62 by omega), Qk, Ql, Qm, Qn, Qo, Qp, Qq, Qr, Qs, Q0, Q1, Q2, Q3, Q4, Q5, Q6, Q7, Q8, Q9, Qa, Qb, Qc, Qd, Qe, Qf, Qg, Qh, Qi, Qj]
    have hs14 := f14.size
    refine ⟨_, by omega, i + 1, k', v', rfl, rfl, hlt', by rw [htk]; exact hown5, f14.up f5 (fun x hx => .inr (hk x (by simpa using hx))), fun g hg => ?_⟩
    rcases hk' with e | ⟨g', e, hge⟩
    · exact hk g (by rw [← e, hg])
    · rw [hg] at e; cases e; omega
  · have hie : i = l.length := by simp at hlt; omega
    subst hie
    rw [List.take_length] at hown
    exact ⟨hown.slV Qw, f1⟩
end Go.Cps
namespace Go.Cps
open Go Go.Proofs
theorem body52 : hasBody Tryz.prog 52 = true := by kernel_rfl
theorem body46 : hasBody Tryz.prog 46 = true := by kernel_rfl
theorem sameHead1_ok {D D' : List Nat} {H : Heap} {p q : Hdr} {us vs : List Value} (hu : HeadR D H p us) (hv : HeadR D' H q vs) (hl : p.2.length < 2 ^ 60) : CallsH Tryz.prog 52 #[.agg us.toArray, .agg vs.toArray] H fun r H' => r = .bool (decide (p = q)) ∧ Frm [] H H' := by
  obtain ⟨y, rfl, hy⟩ := hu
  obtain ⟨z, rfl, hz⟩ := hv
  apply s52
  simp only [c52, New, Value.cells]
  have f1 : Frm [] H (H.push (.cells #[strVal p.1, y] 90 (0, 0))) := Frm.push _ _ _
  have hb1 := push_same H (.cells #[strVal p.1, y] 90 (0, 0))
  generalize H.push (.cells #[strVal p.1, y] 90 (0, 0)) = H1 at *
  have f2 : Frm [] H1 (H1.push (.cells #[strVal q.1, z] 90 (0, 0))) := Frm.push _ _ _
  have hb2 := push_same H1 (.cells #[strVal q.1, z] 90 (0, 0))
  have hb1' : (H1.push (.cells #[strVal q.1, z] 90 (0, 0)))[H.size]? = some (.cells #[strVal p.1, y] 90 (0, 0)) := push_old hb1
  generalize H1.push (.cells #[strVal q.1, z] 90 (0, 0)) = H2 at *
  have f12 := f1.trans f2
  refine Join_direct ?_
  simp only [Q0, Q1, Q2, Q3, Q4, Q5, Q6, Q7, Q8, Q9, Qa, Qb, Qc, Qd, Qe, Qf, Qg, Qh, Qi, Qj, cellH_of hb1', cellH_of hb2, strV_eql']
  refine Br_intro (fun h1 => ?_) (fun h1 => ?_)
  · have hk : p.1 = q.1 := by simpa using h1
    refine (equalStrs_ok (hy.frm Qy f12 (by simp)) (hz.frm Qy f12 (by simp)) hl).mono ?_
    rintro x H3 ⟨rfl, rfl⟩
    simp only [Q0, Q1, Q2, Q3, Q4, Q5, Q6, Q7, Q8, Q9, Qa, Qb, Qc, Qd, Qe, Qf, Qg, Qh, Qi, Qj, if_true]
    refine ⟨?_, f12⟩
    congr 1
    rw [Bool.eq_iff_iff]
    simp [Prod.ext_iff, hk]
  · have hk : ¬ p.1 = q.1 := by simpa using h1
    simp only [Q0, Q1, Q2, Q3, Q4, Q5, Q6, Q7, Q8, Q9, Qa, Qb, Qc, Qd, Qe, Qf, Qg, Qh, Qi, Qj, Bool.false_eq_true, if_false]
    refine ⟨?_, f12⟩
    rw [decide_eq_false (fun e => hk (by rw [e]))]
theorem c51_ok {D D' : List Nat} {H : Heap} {v w : Value} {a b : List Hdr} {R : Value → Heap → Prop} (ha : HeadsV D H v a) (hb : HeadsV D' H w b) (hl : a.length < 2 ^ 60) (hla : ∀ p ∈ a, p.2.length < 2 ^ 60) (hK : ∀ H', Frm [] H H' → R (.bool (decide (a = b))) H') : c51 v w (.func (.func 52) #[] #[]) H R := by
  unfold c51
  exact equalFunc_core Qx ha hb hl body52 (fun x hx y _ us vs H1 _ _ _ hu hv => sameHead1_ok hu hv (hla x hx)) R hK
theorem sameHead_ok {D D' : List Nat} {H : Heap} {v w : Value} {a b : List Hdr} (ha : HeadsV D H v a) (hb : HeadsV D' H w b) (hl : a.length < 2 ^ 60) (hla : ∀ p ∈ a, p.2.length < 2 ^ 60) : CallsH Tryz.prog 21 #[v, w] H fun r H' => r = .bool (decide (a = b)) ∧ Frm [] H H' := by
  apply s21
  unfold c21
  apply s51
  exact c51_ok ha hb hl hla fun H' f => ⟨rfl, f⟩
theorem same1_ok {D D' : List Nat} {H : Heap} {p q : PartL} {us vs : List Value} (hu : PartR D H p us) (hv : PartR D' H q vs) (hl : p.1.length < 2 ^ 60) (hla : ∀ r ∈ p.1, r.2.length < 2 ^ 60) : CallsH Tryz.prog 46 #[.agg us.toArray, .agg vs.toArray] H fun r H' => r = .bool (decide (p = q)) ∧ Frm [] H H' := by
  obtain ⟨y, y2, rfl, hy, hy2⟩ := hu
  obtain ⟨z, z2, rfl, hz, hz2⟩ := hv
  apply s46
  simp only [c46, New, Value.cells]
  have f1 : Frm [] H (H.push (.cells #[y, y2] 39 (0, 0))) := Frm.push _ _ _
  have hb1 := push_same H (.cells #[y, y2] 39 (0, 0))
  generalize H.push (.cells #[y, y2] 39 (0, 0)) = H1 at *
  have f2 : Frm [] H1 (H1.push (.cells #[z, z2] 39 (0, 0))) := Frm.push _ _ _
  have hb2 := push_same H1 (.cells #[z, z2] 39 (0, 0))
  have hb1' : (H1.push (.cells #[z, z2] 39 (0, 0)))[H.size]? = some (.cells #[y, y2] 39 (0, 0)) := push_old hb1
  generalize H1.push (.cells #[z, z2] 39 (0, 0)) = H2 at *
  have f12 := f1.trans f2
  refine Join_direct ?_
  simp only [Q0, Q1, Q2, Q3, Q4, Q5, Q6, Q7, Q8, Q9, Qa, Qb, Qc, Qd, Qe, Qf, Qg, Qh, Qi, Qj, cellH_of hb1', cellH_of hb2]
  refine (sameHead_ok (hy.frm Qx f12 (by simp)) (hz.frm Qx f12 (by simp)) hl hla).mono ?_
  rintro x H3 ⟨rfl, f3⟩
  have f13 := f12.trans f3
  have hb13 := f3.get hb1' (by simp)
  have hb23 := f3.get hb2 (by simp)
  refine Br_intro (fun h1 => ?_) (fun h1 => ?_)
  · have hk : p.1 = q.1 := by simpa using h1
    have e1 := (hy2.frm f13 (by simp)).1.str
    have e2 := (hz2.frm f13 (by simp)).1.str
    have e3 : strV .eql (.string ⟨p.2.toArray⟩) (.string ⟨q.2.toArray⟩) = some (.bool (decide (p.2 = q.2))) := strV_eql' _ _
    simp only [Q0, Q1, Q2, Q3, Q4, Q5, Q6, Q7, Q8, Q9, Qa, Qb, Qc, Qd, Qe, Qf, Qg, Qh, Qi, Qj, cellH_of hb13, cellH_of hb23, e1, e2, e3, if_true]
    refine ⟨?_, f13⟩
    congr 1
    rw [Bool.eq_iff_iff]
    simp [Prod.ext_iff, hk]
  · have hk : ¬ p.1 = q.1 := by simpa using h1
    simp only [Q0, Q1, Q2, Q3, Q4, Q5, Q6, Q7, Q8, Q9, Qa, Qb, Qc, Qd, Qe, Qf, Qg, Qh, Qi, Qj, Bool.false_eq_true, if_false]
    refine ⟨?_, f13⟩
    rw [decide_eq_false (fun e => hk (by rw [e]))]
theorem c45_ok {D D' : List Nat} {H : Heap} {v w : Value} {a b : List PartL} {R : Value → Heap → Prop} (ha : PartsV D H v a) (hb : PartsV D' H w b) (hl : a.length < 2 ^ 60) (hla : ∀ p ∈ a, p.1.length < 2 ^ 60 ∧ ∀ r ∈ p.1, r.2.length < 2 ^ 60) (hK : ∀ H', Frm [] H H' → R (.bool (decide (a = b))) H') : c45 v w (.func (.func 46) #[] #[]) H R := by
  unfold c45
  exact equalFunc_core Qw ha hb hl body46 (fun x hx y _ us vs H1 _ _ _ hu hv => same1_ok hu hv (hla x hx).1 (hla x hx).2) R hK
theorem same_ok {D D' : List Nat} {H : Heap} {v w : Value} {a b : List PartL} (ha : PartsV D H v a) (hb : PartsV D' H w b) (hl : a.length < 2 ^ 60) (hla : ∀ p ∈ a, p.1.length < 2 ^ 60 ∧ ∀ r ∈ p.1, r.2.length < 2 ^ 60) : CallsH Tryz.prog 15 #[v, w] H fun r H' => r = .bool (decide (a = b)) ∧ Frm [] H H' := by
  apply s15
  unfold c15
  apply s45
  exact c45_ok ha hb hl hla fun H' f => ⟨rfl, f⟩
end Go.Cps
namespace Go.Cps
open Go Go.Proofs
theorem Nowhere.cons {v p : List UInt8} {a : UInt8} (h : Nowhere v p) : Nowhere v (a :: p) := by
  intro i hi he
  simp only [List.length_cons] at hi he
  refine h (i + 1) (by omega) ?_
  have hlt : i < v.length := by omega
  rw [List.drop_eq_getElem_cons hlt, List.take_succ_cons] at he
  exact (List.cons.inj he).2
theorem bd_no_cr {l : List UInt8} (h : BdOk l) : 13 ∉ l := by
  intro hm
  have := h.chars 13 hm
  simp [bchar, alnum, punct] at this
end Go.Cps
namespace Go.Cps
open Go Go.Proofs
def bulkH (p : Hdr) : Nat := p.1.length + (p.2.map fun s => s.length + 1).sum + 1
def bulkP (p : PartL) : Nat := (p.1.map bulkH).sum + p.2.length + 1
theorem addH_absent {k v : List UInt8} : ∀ {l : List Hdr}, k ∉ l.map (·.1) → addH k v l = l ++ [(k, [v])]
  | [], _ => rfl
  | p :: r, h => by
    simp only [List.map_cons, List.mem_cons, not_or] at h
    simp only [addH, if_neg (fun e : p.1 = k => h.1 e.symm), addH_absent h.2, List.cons_append]
theorem addH_last {k v : List UInt8} {us : List (List UInt8)} : ∀ {l : List Hdr}, k ∉ l.map (·.1) → addH k v (l ++ [(k, us)]) = l ++ [(k, us ++ [v])]
  | [], _ => by simp [addH]
  | p :: r, h => by
    simp only [List.map_cons, List.mem_cons, not_or] at h
    simp only [List.cons_append, addH, if_neg (fun e : p.1 = k => h.1 e.symm), addH_last h.2]
theorem hdrFrom_vals' {key : List UInt8} : ∀ {vs us : List (List UInt8)} {acc : List Hdr}, canonG true key ∉ acc.map (·.1) → hdrFrom (acc ++ [(canonG true key, us)]) (vs.map fun v => (key, v)) = acc ++ [(canonG true key, us ++ vs)]
  | [], us, acc, _ => by simp [hdrFrom]
  | v :: vs, us, acc, h => by
    have ih := hdrFrom_vals' (vs := vs) (us := us ++ [v]) h
    simp only [hdrFrom, List.map_cons, List.foldl_cons, addH_last h] at ih ⊢
    rw [ih]
    simp
theorem hdrFrom_head : ∀ {hd acc : List Hdr}, (acc.map (·.1) ++ hd.map fun p => canonG true p.1).Nodup → (∀ p ∈ hd, p.2 ≠ []) → hdrFrom acc (linesOf hd) = acc ++ hd.map canonP
  | [], acc, _, _ => by simp [linesOf, hdrFrom]
  | p :: r, acc, hn, hne => by
    have hp := hne p (by simp)
    have hn' := hn
    simp only [List.map_cons] at hn
    rw [List.nodup_append] at hn
    obtain ⟨h1, h2, h3⟩ := hn
    have hk : canonG true p.1 ∉ acc.map (·.1) := fun hm => h3 _ hm _ (by simp) rfl
    have e1 : linesOf (p :: r) = (p.2.map fun v => (p.1, v)) ++ linesOf r := by simp [linesOf]
    have e2 : hdrFrom acc (p.2.map fun v => (p.1, v)) = acc ++ [canonP p] := by
      cases hv : p.2 with
      | nil => exact absurd hv hp
      | cons v vs =>
        have := hdrFrom_vals' (key := p.1) (vs := vs) (us := [v]) hk
        simp only [hdrFrom, List.map_cons, List.foldl_cons, addH_absent hk] at this ⊢
        rw [this, canonP, hv]
        rfl
    have e3 : hdrFrom acc (linesOf (p :: r)) = hdrFrom (acc ++ [canonP p]) (linesOf r) := by
      rw [← e2, e1]
      simp [hdrFrom, List.foldl_append]
    rw [e3, hdrFrom_head (hd := r) (acc := acc ++ [canonP p]) (by simpa [canonP] using hn') (fun q hq => hne q (by simp [hq]))]
    simp
theorem GoodHead.hdr {hd : List Hdr} (h : GoodHead hd) : hdrOf (linesOf hd) = hd.map canonP := by
  have := hdrFrom_head (hd := hd) (acc := []) (by simpa using h.canon) h.ne
  simpa [hdrOf] using this
theorem GoodHead.line {hd : List Hdr} (h : GoodHead hd) : ∀ kv ∈ linesOf hd, LineOk kv := by
  intro kv hkv
  simp only [linesOf, List.mem_flatMap, List.mem_map] at hkv
  obtain ⟨p, hp, v, hv, rfl⟩ := hkv
  have hk := h.keys p hp
  obtain ⟨h1, h2⟩ := h.vals p hp v hv
  simp only [okKey, Bool.and_eq_true, List.all_eq_true, decide_eq_true_eq] at hk
  exact ⟨List.length_pos_iff.1 hk.2, hk.1, h1, by show p.1.length + v.length ≤ 1000; omega⟩
theorem linesOf_ge {hd : List Hdr} (h : ∀ p ∈ hd, p.2 ≠ []) : hd.length ≤ (linesOf hd).length ∧ ∀ p ∈ hd, p.2.length ≤ (linesOf hd).length := by
  induction hd with
  | nil => simp
  | cons p r ih =>
    obtain ⟨h1, h2⟩ := ih fun q hq => h q (by simp [hq])
    have hp := List.length_pos_iff.2 (h p (by simp))
    have e : (linesOf (p :: r)).length = p.2.length + (linesOf r).length := by simp [linesOf]
    refine ⟨by simp [e]; omega, fun q hq => ?_⟩
    rcases List.mem_cons.1 hq with rfl | hq
    · omega
    · have := h2 q hq; omega
theorem GoodHead.asc' {hd : List Hdr} (h : GoodHead hd) : AscHead hd := by
  obtain ⟨h1, h2⟩ := linesOf_ge h.ne
  have := h.few
  refine ⟨h.asc, fun p hp => ⟨h.ne p hp, by have := h2 p hp; omega⟩, by omega, fun p hp => ?_⟩
  obtain ⟨v, hv⟩ := List.exists_mem_of_ne_nil _ (h.ne p hp)
  have := (h.vals p hp v hv).2
  omega
theorem GoodPart.inn {bd : List UInt8} {p : PartL} (h : GoodPart bd p) (hl : p.2.length < 2 ^ 38) : GoodIn bd (partInL p) where
  lines := h.head.line
  few := by have := h.head.few; exact Nat.le_trans this (by omega)
  nw := h.free.2.cons
  dash := h.free.1
  small := hl
theorem GoodPart.res {bd : List UInt8} {p : PartL} (h : GoodPart bd p) : resOf (partInL p) = canonPart p := by
  simp only [resOf, partInL, canonPart, h.head.hdr]
theorem lines_len {hd : List Hdr} : (linesOf hd).length ≤ (hd.map bulkH).sum := by
  induction hd with
  | nil => simp [linesOf]
  | cons p r ih =>
    have e : (linesOf (p :: r)).length = p.2.length + (linesOf r).length := by simp [linesOf]
    have : p.2.length ≤ (p.2.map fun s => s.length + 1).sum := by
      generalize p.2 = l
      induction l with
      | nil => simp
      | cons s l ih => simp only [List.length_cons, List.map_cons, List.sum_cons]; omega
    simp only [List.map_cons, List.sum_cons, bulkH] at *
    omega
theorem text_len : ∀ {ls : List (List UInt8 × List UInt8)}, (∀ kv ∈ ls, LineOk kv) → (linesText ls).length ≤ ls.length * 1004
  | [], _ => by simp [linesText]
  | kv :: ls, h => by
    have h1 := (h kv (by simp)).len
    have h2 := text_len (ls := ls) fun x hx => h x (by simp [hx])
    simp only [linesText, List.flatMap_cons, List.length_append, List.length_cons, lineOf, List.length_nil, Nat.add_mul] at *
    omega
theorem part_len {bd : List UInt8} {p : PartL} (h : GoodPart bd p) : (partIn (partInL p)).length ≤ 1004 * bulkP p := by
  have h1 := text_len h.head.line
  have h2 := lines_len (hd := p.1)
  have h3 : (linesOf p.1).length * 1004 ≤ (p.1.map bulkH).sum * 1004 := Nat.mul_le_mul_right _ h2
  simp only [partIn, partInL, List.length_append, List.length_cons, bulkP]
  omega
theorem tail_len' {bd : List UInt8} : ∀ {l : List PartL}, (∀ p ∈ l, GoodPart bd p) → (tailT bd none (l.map partInL)).length ≤ l.length * (10 + bd.length) + 1004 * (l.map bulkP).sum + 4
  | [], _ => by simp [tailT]
  | p :: l, h => by
    have h1 := part_len (h p (by simp))
    have h2 := tail_len' (l := l) (fun g hg => h g (by simp [hg]))
    simp only [List.map_cons, tailT, List.length_cons, List.length_append, nldOf_length, List.sum_cons, Nat.add_mul, Nat.mul_add] at *
    omega
theorem whole_len' {bd : List UInt8} {l : List PartL} (h : ∀ p ∈ l, GoodPart bd p) : (wholeT bd none (l.map partInL)).length ≤ l.length * (10 + bd.length) + 1004 * (l.map bulkP).sum + bd.length + 10 := by
  have := tail_len' h
  unfold wholeT
  split <;> simp only [List.length_append, nldOf_length, dashOf_length] <;> omega
theorem le_sumOf {α : Type} {f : α → Nat} {l : List α} {a : α} (h : a ∈ l) : f a ≤ (l.map f).sum := by
  induction l with
  | nil => cases h
  | cons g l ih =>
    simp only [List.map_cons, List.sum_cons]
    rcases List.mem_cons.1 h with rfl | h
    · omega
    · have := ih h; omega
theorem bulk_small {l : List PartL} {n : Nat} (h : (l.map bulkP).sum ≤ n) : l.length ≤ n ∧ ∀ p ∈ l, p.2.length ≤ n ∧ p.1.length ≤ n ∧ ∀ q ∈ p.1, q.1.length ≤ n ∧ q.2.length ≤ n ∧ ∀ s ∈ q.2, s.length ≤ n := by
  have hlen : ∀ {α : Type} {f : α → Nat} {m : List α}, (∀ a, 1 ≤ f a) → m.length ≤ (m.map f).sum := by
    intro α f m h1
    induction m with
    | nil => simp
    | cons a m ih => have := h1 a; simp only [List.length_cons, List.map_cons, List.sum_cons]; omega
  refine ⟨Nat.le_trans (hlen fun p => by simp [bulkP]) h, fun p hp => ?_⟩
  have hp1 := le_sumOf (f := bulkP) hp
  have e1 : bulkP p = (p.1.map bulkH).sum + p.2.length + 1 := rfl
  have e2 : p.1.length ≤ (p.1.map bulkH).sum := hlen fun q => by simp [bulkH]
  refine ⟨by omega, by omega, fun q hq => ?_⟩
  have hq1 := le_sumOf (f := bulkH) hq
  have e3 : bulkH q = q.1.length + (q.2.map fun s => s.length + 1).sum + 1 := rfl
  have e4 : q.2.length ≤ (q.2.map fun s : List UInt8 => s.length + 1).sum := hlen fun s => by simp
  refine ⟨by omega, by omega, fun s hs => ?_⟩
  have := le_sumOf (f := fun s : List UInt8 => s.length + 1) hs
  omega
end Go.Cps
