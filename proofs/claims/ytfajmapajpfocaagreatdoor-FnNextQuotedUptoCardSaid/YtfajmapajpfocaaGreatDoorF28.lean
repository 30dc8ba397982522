/-
  A part of the proof: The laying of the shelf at this program: slices.SortFunc of headers; what it does at heap level. impl.headers; what reading makes of lines: the sorted header. The text of a body of parts; one part of it read. impl.parts over NextRawPart: the parts of a body, whole or cut in the last one. impl.Parts of a body of parts, whole or cut in the last one.
  Conditions: each contract's own.
-/
import Derived.Shelf.SlSortCmp.NoneTotal
import Derived.Sort.Walk0
import Derived.WalkKit
import Derived.Test.YtfajmapajpfocaaGreatDoorF8
import Derived.Test.YtfajmapajpfocaaGreatDoorF24
import Derived.Test.YtfajmapajpfocaaGreatDoorF25
set_option linter.all false
namespace Go.Cps
open Go Go.Proofs Go.Shelf Go.RowKit Go.Lib Go.Sort
set_option maxRecDepth 100000
def layHdr_ren : Ren := ⟨fun x => match x with | 6 => 89 | 15 => 106 | 14 => 107 | 28 => 132 | 29 => 133 | 20 => 134 | 21 => 135 | 22 => 136 | 23 => 137 | 24 => 138 | 25 => 139 | 26 => 140 | 27 => 141 | 46 => 155 | 47 => 150 | 48 => 151 | 49 => 156 | 50 => 157 | 57 => 163 | n => n, fun x => match x with | 22 => 37 | 24 => 90 | 25 => 150 | 3 => 3 | 39 => 170 | 0 => 0 | 53 => 204 | 55 => 206 | 4 => 4 | 46 => 198 | 45 => 197 | 50 => 141 | 5 => 5 | 9 => 9 | 66 => 225 | 70 => 229 | 76 => 245 | 77 => 246 | n => n, fun n => n⟩
theorem layHdr : SlLaysF0.n6 Tryz.prog layHdr_ren :=
  { mixed := by kernel_rfl,
    f6 := ⟨"slices.SortFunc[[]loop.example/pub-mailparts/impl.Header,loop.example/pub-mailparts/impl.Header]", by kernel_rfl, by kernel_rfl⟩,
    f14 := ⟨"slices.pdqsortCmpFunc[loop.example/pub-mailparts/impl.Header]", by kernel_rfl, by kernel_rfl⟩,
    f15 := by kernel_rfl,
    f20 := ⟨"slices.insertionSortCmpFunc[loop.example/pub-mailparts/impl.Header]", by kernel_rfl, by kernel_rfl⟩,
    f21 := ⟨"slices.heapSortCmpFunc[loop.example/pub-mailparts/impl.Header]", by kernel_rfl, by kernel_rfl⟩,
    f22 := ⟨"slices.breakPatternsCmpFunc[loop.example/pub-mailparts/impl.Header]", by kernel_rfl, by kernel_rfl⟩,
    f23 := ⟨"slices.choosePivotCmpFunc[loop.example/pub-mailparts/impl.Header]", by kernel_rfl, by kernel_rfl⟩,
    f24 := ⟨"slices.reverseRangeCmpFunc[loop.example/pub-mailparts/impl.Header]", by kernel_rfl, by kernel_rfl⟩,
    f25 := ⟨"slices.partialInsertionSortCmpFunc[loop.example/pub-mailparts/impl.Header]", by kernel_rfl, by kernel_rfl⟩,
    f26 := ⟨"slices.partitionEqualCmpFunc[loop.example/pub-mailparts/impl.Header]", by kernel_rfl, by kernel_rfl⟩,
    f27 := ⟨"slices.partitionCmpFunc[loop.example/pub-mailparts/impl.Header]", by kernel_rfl, by kernel_rfl⟩,
    f28 := by kernel_rfl,
    f29 := by kernel_rfl,
    f46 := ⟨"slices.siftDownCmpFunc[loop.example/pub-mailparts/impl.Header]", by kernel_rfl, by kernel_rfl⟩,
    f47 := by kernel_rfl,
    f48 := by kernel_rfl,
    f49 := ⟨"slices.medianAdjacentCmpFunc[loop.example/pub-mailparts/impl.Header]", by kernel_rfl, by kernel_rfl⟩,
    f50 := ⟨"slices.medianCmpFunc[loop.example/pub-mailparts/impl.Header]", by kernel_rfl, by kernel_rfl⟩,
    f57 := ⟨"slices.order2CmpFunc[loop.example/pub-mailparts/impl.Header]", by kernel_rfl, by kernel_rfl⟩,
    t0 := by kernel_rfl,
    a0 := fun _ => by kernel_rfl,
    z0 := fun _ => by kernel_rfl,
    v0 := fun _ => by kernel_rfl,
    t3 := by kernel_rfl,
    a3 := fun _ => by kernel_rfl,
    z3 := fun _ => by kernel_rfl,
    v3 := fun _ => by kernel_rfl,
    t4 := by kernel_rfl,
    a4 := fun _ => by kernel_rfl,
    z4 := fun _ => by kernel_rfl,
    v4 := fun _ => by kernel_rfl,
    t5 := by kernel_rfl,
    a5 := fun _ => by kernel_rfl,
    z5 := fun _ => by kernel_rfl,
    v5 := fun _ => by kernel_rfl,
    t9 := by kernel_rfl,
    a9 := fun _ => by kernel_rfl,
    z9 := fun _ => by kernel_rfl,
    v9 := fun _ => by kernel_rfl,
    t22 := by kernel_rfl,
    a22 := fun _ => by kernel_rfl,
    z22 := fun _ => by kernel_rfl,
    v22 := fun _ => by kernel_rfl,
    t25 := by kernel_rfl,
    a25 := fun _ => by kernel_rfl,
    z25 := fun _ => by kernel_rfl,
    v25 := fun _ => by kernel_rfl,
    t39 := by kernel_rfl,
    a39 := fun _ => by kernel_rfl,
    z39 := fun _ => by kernel_rfl,
    v39 := fun _ => by kernel_rfl,
    t45 := by kernel_rfl,
    a45 := fun _ => by kernel_rfl,
    z45 := fun _ => by kernel_rfl,
    v45 := fun _ => by kernel_rfl,
    t46 := by kernel_rfl,
    a46 := fun _ => by kernel_rfl,
    z46 := fun _ => by kernel_rfl,
    v46 := fun _ => by kernel_rfl,
    t50 := by kernel_rfl,
    a50 := fun _ => by kernel_rfl,
    z50 := fun _ => by kernel_rfl,
    v50 := fun _ => by kernel_rfl,
    t53 := by kernel_rfl,
    a53 := fun _ => by kernel_rfl,
    z53 := fun _ => by kernel_rfl,
    v53 := fun _ => by kernel_rfl,
    t55 := by kernel_rfl,
    a55 := fun _ => by kernel_rfl,
    z55 := fun _ => by kernel_rfl,
    v55 := fun _ => by kernel_rfl,
    t66 := by kernel_rfl,
    a66 := fun _ => by kernel_rfl,
    z66 := fun _ => by kernel_rfl,
    v66 := fun _ => by kernel_rfl,
    t70 := by kernel_rfl,
    a70 := fun _ => by kernel_rfl,
    z70 := fun _ => by kernel_rfl,
    v70 := fun _ => by kernel_rfl,
    t76 := by kernel_rfl,
    a76 := fun _ => by kernel_rfl,
    z76 := fun _ => by kernel_rfl,
    v76 := fun _ => by kernel_rfl,
    t77 := by kernel_rfl,
    a77 := fun _ => by kernel_rfl,
    z77 := fun _ => by kernel_rfl,
    v77 := fun _ => by kernel_rfl }
def cfH (a b : Hdr × Value) : Int := if Op.bytesLess a.1.1 b.1.1 then -1 else 1
set_option maxHeartbeats 1000000 in
theorem cmp90 (a b : Hdr × Value) (W : World) : Calls Tryz.prog 90 #[.agg #[strVal a.1.1, a.2], .agg #[strVal b.1.1, b.2]] W fun e w' => e = .returned (.int .i64 (cfH a b)) ∧ ∃ q os', w' = grow (W.drewN q) os' := by
  unfold cfH
  obtain ⟨⟨k, _⟩, y⟩ := a
  obtain ⟨⟨k', _⟩, y'⟩ := b
  unfold strVal
  go_enter Tryz.func90, Tryz.ntmps90
  go_wp2
  all_goals go_ret
  all_goals first
    | (exact ⟨rfl, 0, _, by rw [alloc_eq_grow, alloc_eq_grow, grow_grow]; rfl⟩)
    | (exfalso; simp_all; done)
def one1 (v : Value) : Value := if v.oneCell' then v else .nilIface
theorem one1_one (v : Value) : (one1 v).oneCell' = true := by
  unfold one1
  split
  · assumption
  · rfl
def encH (x : Hdr × Value) : List Value := [strVal x.1.1, one1 x.2]
theorem ltH (x y : Hdr × Value) : ltOf cfH x y = decide (x.1.1 < y.1.1) := by
  unfold ltOf cfH
  rw [bytesLess_eq]
  by_cases h : x.1.1 < y.1.1 <;> simp [h]
theorem swoH : SWO (ltOf cfH) where
  irrefl x := by rw [ltH]; simp [List.lt_irrefl]
  trans x y z h1 h2 := by rw [ltH] at *; simp only [decide_eq_true_eq] at *; exact List.lt_trans h1 h2
  ntrans x y z h1 h2 := by
    rw [ltH] at *
    simp only [decide_eq_false_iff_not, List.not_lt] at *
    exact List.le_trans h2 h1
instance : Inhabited (Hdr × Value) := ⟨(([], []), undef)⟩
theorem enters90 : ∀ args w, (callFunc 90 args).run Tryz.prog w = .ok (.enter 90 args) w := enters_of Tryz.func90 (by kernel_rfl) rfl
theorem agg90 (w : World) : (isAgg 90).run Tryz.prog w = .ok true w := by kernel_rfl
theorem size90 (w : World) : (Go.sizeOf 90).run Tryz.prog w = .ok 2 w := by kernel_rfl
theorem cmpLays90 (blk off size : Nat) (w : World) : CmpLays Tryz.prog 90 #[] encH 2 cfH blk off size w :=
  fun _ _ _ _ x y => cmp90 (x.1, one1 x.2) (y.1, one1 y.2) _
theorem encH_one (x : Hdr × Value) : ∀ v ∈ encH x, v.oneCell' = true := by
  intro v hv
  simp only [encH, List.mem_cons, List.not_mem_nil, or_false] at hv
  rcases hv with rfl | rfl
  · rfl
  · exact one1_one _
theorem sort89 (blk off cap : Nat) (d : Array (Hdr × Value)) (w : World) (hH : HoldsK encH 2 w blk off d) (hblk : blk < w.heap.size) (hsz : d.size < 4611686018427387904) :
    Calls Tryz.prog 89 #[.slice (some ⟨blk, off, none⟩) d.size cap, .func (.func 90) #[] #[]] w fun e w' => e = .returned (.tuple #[]) ∧ ∃ d' n os, PermIn 0 d.size d d' ∧ SortedIn (ltOf cfH) 0 d.size d' ∧ w' = sortWorldK encH 2 w blk off n d' os :=
  AnyQ.slices_SortFunc layHdr 2 agg90 size90 encH (fun _ => rfl) encH_one cfH swoH 90 #[] blk off cap d w enters90 (cmpLays90 blk off d.size w) hH hblk hsz
theorem sort89_none (p : Option Addr) (cap : Nat) (fv : Value) (w : World) : Calls Tryz.prog 89 #[.slice p 0 cap, fv] w fun e w' => e = .returned (.tuple #[]) ∧ w' = w :=
  AnyF.slices_SortFunc_none layHdr p cap fv w
theorem sortWorld_heap {g n : Nat} {cells : Array Value} {T : TypeId} {w : World} {d : Array (Hdr × Value)} {os : Array Obj} (hg : w.heap[g]? = some (.cells cells T (0, 0))) (hs : d.size * 2 ≤ cells.size) :
    Same w (sortWorldK encH 2 w g 0 n d os) ∧ ∃ cells', (sortWorldK encH 2 w g 0 n d os).heap[g]? = some (.cells cells' T (0, 0)) ∧ cells'.size = cells.size ∧ (∀ j, j < d.size → cells'[j * 2]? = some (strVal d[j]!.1.1) ∧ cells'[j * 2 + 1]? = some (one1 d[j]!.2)) ∧ Frm [g] w.heap (sortWorldK encH 2 w g 0 n d os).heap := by
  have hlt := lt_of_some hg
  have hh : (sortWorldK encH 2 w g 0 n d os).heap = (w.heap.modify g (onCells (putCells id 0 (flatK encH 2 d)))) ++ os := rfl
  refine ⟨⟨rfl, rfl, rfl⟩, putCells id 0 (flatK encH 2 d) cells, ?_, by simp [putCells], fun j hj => ?_, ⟨by rw [hh]; simp, fun k hk hn => ?_⟩⟩
  · rw [hh, Array.getElem?_append_left (by simpa using hlt), Array.getElem?_modify, if_pos rfl, hg]
    rfl
  · have h1 : j * 2 < (flatK encH 2 d).size := by simp; omega
    have h2 : j * 2 + 1 < (flatK encH 2 d).size := by simp; omega
    have e1 := get_flatK encH 2 d (j * 2) (by omega)
    have e2 := get_flatK encH 2 d (j * 2 + 1) (by omega)
    rw [show j * 2 / 2 = j by omega, show j * 2 % 2 = 0 by omega] at e1
    rw [show (j * 2 + 1) / 2 = j by omega, show (j * 2 + 1) % 2 = 1 by omega] at e2
    simp only [size_flatK] at h1 h2
    constructor
    · simp only [putCells, Array.getElem?_mapIdx, size_flatK, Nat.zero_add, Nat.sub_zero]
      rw [Array.getElem?_eq_getElem (by omega : j * 2 < cells.size), Option.map_some, if_pos ⟨by omega, by omega⟩, e1]
      rfl
    · simp only [putCells, Array.getElem?_mapIdx, size_flatK, Nat.zero_add, Nat.sub_zero]
      rw [Array.getElem?_eq_getElem (by omega : j * 2 + 1 < cells.size), Option.map_some, if_pos ⟨by omega, by omega⟩, e2]
      rfl
  · rw [hh, Array.getElem?_append_left (by simpa using hk), Array.getElem?_modify, if_neg (fun e => hn (by simp [e]))]
theorem one1_slice {w : Nat} {α : Type} {R : List Nat → Heap → α → List Value → Prop} {D : List Nat} {H : Heap} {v : Value} {l : List α} (h : SlV w R D H v l) : one1 v = v := by
  rcases h with ⟨b, o, c, rfl, _⟩ | ⟨_, rfl, _⟩ <;> rfl
theorem sortHeaders_ok {D : List Nat} {H : Heap} {k : Option Nat} {v : Value} {hs : List Hdr} (h : OwnS 2 90 HeadR D H k v hs) (hl : hs.length < 2 ^ 40) :
    CallsH Tryz.prog 89 #[v, .func (.func 90) #[] #[]] H fun x H' => ∃ hs' : List Hdr, hs'.Perm hs ∧ hs'.Pairwise (fun a b => ¬ b.1 < a.1) ∧ OwnS 2 90 HeadR D H' k v hs' ∧ Frm k.toList H H' := by
  intro w hw
  subst hw
  cases k with
  | none =>
    obtain ⟨rfl, rfl⟩ := h
    refine (sort89_none none 0 _ w).mono ?_
    rintro e w' ⟨rfl, rfl⟩
    exact ⟨_, rfl, .refl _, [], List.Perm.refl _, List.Pairwise.nil, ⟨rfl, rfl⟩, Frm.refl _ _⟩
  | some g =>
    obtain ⟨cells, c, rfl, hg, hc, hlc, hgD, he⟩ := h
    have hlt := lt_of_some hg
    generalize hd : (Array.ofFn fun j : Fin hs.length => (hs[j], cells.getD (j.1 * 2 + 1) undef)) = d
    have hds : d.size = hs.length := by rw [← hd]; simp
    have hdj : ∀ (j : Nat) (hj : j < hs.length), d[j]! = (hs[j], cells.getD (j * 2 + 1) undef) := fun j hj => by
      rw [← hd, getElem!_pos _ j (by simpa using hj)]
      simp
    have hel : ∀ (j : Nat) (hj : j < hs.length), ∃ y, d[j]! = (hs[j], y) ∧ cells[j * 2]? = some (strVal hs[j].1) ∧ cells[j * 2 + 1]? = some y ∧ StrsV (g :: D) w.heap y hs[j].2 := fun j hj => by
      obtain ⟨vs, g1, ⟨y, rfl, hy⟩, g3⟩ := he j hj
      have h0 := g3 0 (by omega)
      have h1 := g3 1 (by omega)
      simp only [List.getElem?_cons_zero, List.getElem?_cons_succ, Nat.add_zero] at h0 h1
      refine ⟨y, ?_, h0, h1, hy⟩
      rw [hdj j hj, Array.getD_eq_getD_getElem?, h1]
      rfl
    have hH : HoldsK encH 2 w g 0 d := by
      intro t ht
      simp only [size_flatK] at ht
      rw [get_flatK _ _ _ _ ht]
      obtain ⟨y, e1, e2, e3, e4⟩ := hel (t / 2) (by omega)
      refine ⟨?_, ?_⟩
      · rw [cellH_eq, cellH_of hg, Nat.zero_add, e1, id]
        rcases Nat.mod_two_eq_zero_or_one t with h | h
        · rw [h]
          have ht2 : t = t / 2 * 2 := by omega
          rw [show cells[t]? = cells[t / 2 * 2]? by rw [← ht2], e2]
          rfl
        · rw [h]
          have ht2 : t = t / 2 * 2 + 1 := by omega
          rw [show cells[t]? = cells[t / 2 * 2 + 1]? by rw [← ht2], e3]
          show some y = some (one1 y)
          rw [one1_slice e4]
      · rw [frozenH_eq, frozenH, hg]
        simp
    have hsc := sort89 g 0 c d w hH hlt (by omega)
    rw [hds] at hsc
    refine hsc.mono ?_
    rintro e w' ⟨rfl, d', n, os, hp, hso, rfl⟩
    obtain ⟨hps, _, hpp⟩ := hp
    have hd's : d'.size = hs.length := hps.trans hds
    obtain ⟨hsame, cells', hg', hcs', hcell', hfr⟩ := sortWorld_heap (n := n) (d := d') (os := os) hg (by omega)
    have hpp2 : d'.toList.Perm d.toList := by
      have e1 : d'.extract 0 hs.length = d' := by rw [← hd's]; exact Array.extract_size
      have e2 : d.extract 0 hs.length = d := by rw [← hds]; exact Array.extract_size
      rw [e1, e2] at hpp
      exact hpp
    have hdl : d.toList.map (·.1) = hs := by
      apply List.ext_getElem?
      intro i
      rw [List.getElem?_map, Array.getElem?_toList]
      by_cases hi : i < hs.length
      · have := hdj i hi
        rw [getElem!_pos d i (by omega)] at this
        rw [Array.getElem?_eq_getElem (by omega), List.getElem?_eq_getElem hi, this]
        rfl
      · rw [Array.getElem?_eq_none (by omega), List.getElem?_eq_none (by omega)]
        rfl
    refine ⟨_, rfl, hsame, d'.toList.map (·.1), ?_, ?_, ?_, hfr⟩
    · have := hpp2.map (·.1)
      rw [hdl] at this
      exact this
    · rw [List.pairwise_iff_getElem]
      intro i j hi hj hij
      simp only [List.length_map, Array.length_toList] at hi hj
      have := hso i j (Nat.zero_le _) hij (by omega)
      rw [ltH, getElem!_pos d' i hi, getElem!_pos d' j hj] at this
      simpa using this
    · have hlen' : (d'.toList.map (·.1)).length = hs.length := by simp [hd's]
      refine ⟨cells', c, by rw [hlen'], hg', by rw [hcs', hc], by omega, hgD, fun j hj => ?_⟩
      rw [hlen'] at hj
      obtain ⟨h1, h2⟩ := hcell' j (by omega)
      have hmem : d'[j]! ∈ d.toList := by
        rw [getElem!_pos d' j (by omega)]
        exact hpp2.mem_iff.1 (by simp)
      obtain ⟨i, hi, hie⟩ := List.getElem_of_mem hmem
      simp only [Array.length_toList, Array.getElem_toList] at hi hie
      obtain ⟨y, e1, _, _, e4⟩ := hel i (by omega)
      rw [getElem!_pos d i hi, hie] at e1
      have hgj : (d'.toList.map (·.1))[j]'(by omega) = hs[i] := by
        have : d'[j]! = d'[j] := getElem!_pos d' j (by omega)
        simp only [List.getElem_map, Array.getElem_toList]
        rw [← this, e1]
      rw [e1] at h1 h2
      simp only [one1_slice e4] at h1 h2
      refine ⟨[strVal hs[i].1, y], rfl, ?_, fun q hq => ?_⟩
      · rw [hgj]
        exact ⟨y, rfl, e4.frm Qy hfr (fun x hx => by rw [List.mem_singleton] at hx; subst hx; exact .inl (by simp))⟩
      · rcases q with _ | _ | q
        · simpa using h1
        · simpa using h2
        · omega
end Go.Cps
namespace Go.Cps
open Go Go.Proofs
theorem addH_keys (k v : List UInt8) : ∀ (l : List Hdr), (addH k v l).map (·.1) = if k ∈ l.map (·.1) then l.map (·.1) else l.map (·.1) ++ [k]
  | [] => rfl
  | p :: r => by
    simp only [addH]
    by_cases h : p.1 = k
    · rw [if_pos h, if_pos (by simp [h])]
      rfl
    · rw [if_neg h, List.map_cons, addH_keys k v r]
      by_cases h2 : k ∈ r.map (·.1)
      · rw [if_pos h2, if_pos (by simp only [List.map_cons, List.mem_cons]; exact .inr h2)]
        rfl
      · rw [if_neg h2, if_neg (by simp only [List.map_cons, List.mem_cons, not_or]; exact ⟨fun e => h e.symm, h2⟩)]
        rfl
theorem addH_nodup {k v : List UInt8} {l : List Hdr} (h : (l.map (·.1)).Nodup) : ((addH k v l).map (·.1)).Nodup := by
  rw [addH_keys]
  split
  · exact h
  · rename_i hn
    rw [List.nodup_append]
    refine ⟨h, by simp, fun a ha b hb => ?_⟩
    rw [List.mem_singleton] at hb
    rintro rfl
    exact hn (hb ▸ ha)
theorem addH_vals (k v : List UInt8) (n : Nat) : ∀ (l : List Hdr), (∀ p ∈ l, p.2 ≠ [] ∧ p.2.length ≤ n) → ∀ p ∈ addH k v l, p.2 ≠ [] ∧ p.2.length ≤ n + 1
  | [], _, p, hp => by simp [addH] at hp; subst hp; simp
  | q :: r, h, p, hp => by
    simp only [addH] at hp
    split at hp
    · rcases List.mem_cons.1 hp with rfl | hp
      · have := (h q (by simp)).2
        simp; omega
      · have := h p (by simp [hp])
        exact ⟨this.1, by omega⟩
    · rcases List.mem_cons.1 hp with rfl | hp
      · have := h p (by simp)
        exact ⟨this.1, by omega⟩
      · exact addH_vals k v n r (fun p hp => h p (by simp [hp])) p hp
theorem hdrFrom_nodup : ∀ (ls : List (List UInt8 × List UInt8)) (acc : List Hdr), (acc.map (·.1)).Nodup → ((hdrFrom acc ls).map (·.1)).Nodup
  | [], _, h => h
  | kv :: ls, acc, h => hdrFrom_nodup ls _ (addH_nodup h)
theorem hdrOf_nodup (ls : List (List UInt8 × List UInt8)) : ((hdrOf ls).map (·.1)).Nodup := hdrFrom_nodup ls [] (by simp)
theorem hdrFrom_vals : ∀ (ls : List (List UInt8 × List UInt8)) (acc : List Hdr) (n : Nat), (∀ p ∈ acc, p.2 ≠ [] ∧ p.2.length ≤ n) → ∀ p ∈ hdrFrom acc ls, p.2 ≠ [] ∧ p.2.length ≤ n + ls.length
  | [], _, _, h => h
  | kv :: ls, acc, n, h => fun p hp => by
    have := hdrFrom_vals ls _ (n + 1) (addH_vals _ _ n acc h) p hp
    exact ⟨this.1, by simp; omega⟩
theorem hdrOf_vals (ls : List (List UInt8 × List UInt8)) : ∀ p ∈ hdrOf ls, p.2 ≠ [] ∧ p.2.length ≤ ls.length := fun p hp => by
  have := hdrFrom_vals ls [] 0 (by simp) p hp
  exact ⟨this.1, by omega⟩
theorem addH_len (k v : List UInt8) : ∀ (l : List Hdr), (addH k v l).length ≤ l.length + 1
  | [] => by simp [addH]
  | p :: r => by
    simp only [addH]
    split
    · simp
    · have := addH_len k v r; simp; omega
theorem hdrFrom_len : ∀ (ls : List (List UInt8 × List UInt8)) (acc : List Hdr), (hdrFrom acc ls).length ≤ acc.length + ls.length
  | [], _ => Nat.le_refl _
  | kv :: ls, acc => by
    have h1 := hdrFrom_len ls (addH (canonG true kv.1) kv.2 acc)
    have h2 := addH_len (canonG true kv.1) kv.2 acc
    show (hdrFrom (addH (canonG true kv.1) kv.2 acc) ls).length ≤ _
    simp; omega
def sortHs (l : List Hdr) : List Hdr := l.mergeSort fun a b => decide (a.1 ≤ b.1)
theorem sortHs_perm (l : List Hdr) : (sortHs l).Perm l := List.mergeSort_perm _ _
theorem sortHs_sorted (l : List Hdr) : (sortHs l).Pairwise fun a b => a.1 ≤ b.1 := by
  have := List.pairwise_mergeSort (le := fun a b : Hdr => decide (a.1 ≤ b.1)) (fun a b c h1 h2 => by simp only [decide_eq_true_eq] at *; exact List.le_trans h1 h2) (fun a b => by simpa using List.le_total a.1 b.1) l
  exact this.imp fun h => by simpa using h
theorem key_inj {l : List Hdr} (h : (l.map (·.1)).Nodup) : ∀ {a b : Hdr}, a ∈ l → b ∈ l → a.1 = b.1 → a = b := by
  induction l with
  | nil => intro a b ha; cases ha
  | cons x r ih =>
    rw [List.map_cons, List.nodup_cons] at h
    intro a b ha hb e
    rcases List.mem_cons.1 ha with ea | ha2 <;> rcases List.mem_cons.1 hb with eb | hb2
    · rw [ea, eb]
    · subst ea; exact (h.1 (List.mem_map.2 ⟨b, hb2, e.symm⟩)).elim
    · subst eb; exact (h.1 (List.mem_map.2 ⟨a, ha2, e⟩)).elim
    · exact ih h.2 ha2 hb2 e
theorem sortHs_eq {hs l : List Hdr} (hp : hs.Perm l) (hn : (l.map (·.1)).Nodup) (hs' : hs.Pairwise fun a b => a.1 ≤ b.1) : hs = sortHs l :=
  List.Perm.eq_of_pairwise (le := fun a b : Hdr => a.1 ≤ b.1) (fun a b ha hb h1 h2 => key_inj hn (hp.mem_iff.1 ha) ((sortHs_perm l).mem_iff.1 hb) (List.le_antisymm h1 h2)) hs' (sortHs_sorted l) (hp.trans (sortHs_perm l).symm)
theorem headersH_ok {H : Heap} {pt mr n total T : Nat} {P : PF} {ev rv : Value} {m N : Nat} {E : List Ent} {D : List Nat} {h0 : List Hdr} (hp : H[pt]? = some (.cells (ptCells P mr n total ev rv) T (0, 0))) (hP : P.hdr = .map (some m)) (hE : Ents H m N E) (hhd : E.map Ent.hd = h0) (hn : (h0.map (·.1)).Nodup) (hvs : ∀ p ∈ h0, p.2 ≠ [] ∧ p.2.length < 2 ^ 30) (hl : h0.length < 2 ^ 30) (hD : ∀ x ∈ D, x < H.size) :
    CallsH Tryz.prog 67 #[.pointer (some ⟨pt, 0, none⟩)] H fun x H' => HeadsV D H' x (sortHs h0) ∧ Frm [] H H' := by
  have hlen := congrArg List.length hhd
  simp only [List.length_map] at hlen
  apply s67
  simp only [c67, Q0, Q1, Q2, Q3, Q4, Q5, Q6, Q7, Q8, Q9, Qa, Qb, Qc, Qd, Qe, Qf, Qg, Qh, Qi, Qj, cellH_of hp, ptCells, hP]
  have hev : ∀ e ∈ E, e.vs ≠ [] ∧ e.vs.length < 2 ^ 30 := fun e he => by
    have : e.hd ∈ h0 := by rw [← hhd]; exact List.mem_map.2 ⟨e, he, rfl⟩
    exact hvs _ this
  obtain ⟨x10, H0, hx, hloop⟩ := headersLoop_ok (D := D) (K := fun out H1 => CallsH Tryz.prog 89 #[out, .func (.func 90) #[] #[]] H1 fun _ H' => HeadsV D H' out (sortHs h0) ∧ Frm [] H H') hE hev (by omega) hD (fun k out hs H1 hout hperm f1 hk => by
    have hl1 := hperm.length_eq
    simp only [List.length_map] at hl1
    refine (sortHeaders_ok hout (by omega)).mono ?_
    rintro x H2 ⟨hs', hp', hso, hout', f2⟩
    have heq : hs' = sortHs h0 := sortHs_eq (by rw [← hhd]; exact hp'.trans hperm) hn (hso.imp fun h => List.not_lt.1 h)
    rw [← heq]
    exact ⟨hout'.slV Qx, f1.up f2 (fun x hx => .inr (hk x (by simpa using hx)))⟩)
  rw [hx]
  exact hloop
theorem hdrOf_len (ls : List (List UInt8 × List UInt8)) : (hdrOf ls).length ≤ ls.length := by
  have hll := hdrFrom_len ls []
  simp only [List.length_nil] at hll
  unfold hdrOf; omega
theorem headers_ok {H : Heap} {pt mr n total T : Nat} {P : PF} {ev rv : Value} {m N : Nat} {E : List Ent} {D : List Nat} {ls : List (List UInt8 × List UInt8)} (hp : H[pt]? = some (.cells (ptCells P mr n total ev rv) T (0, 0))) (hP : P.hdr = .map (some m)) (hE : Ents H m N E) (hhd : E.map Ent.hd = hdrOf ls) (hl : ls.length < 2 ^ 29) (hD : ∀ x ∈ D, x < H.size) :
    CallsH Tryz.prog 67 #[.pointer (some ⟨pt, 0, none⟩)] H fun x H' => HeadsV D H' x (sortHs (hdrOf ls)) ∧ Frm [] H H' := by
  have hll2 := hdrOf_len ls
  exact headersH_ok hp hP hE hhd (hdrOf_nodup ls) (fun p hp => ⟨(hdrOf_vals ls p hp).1, by have := (hdrOf_vals ls p hp).2; omega⟩) (by omega) hD
end Go.Cps
namespace Go.Cps
open Go Go.Proofs
abbrev PartIn := List (List UInt8 × List UInt8) × List UInt8
def partIn (p : PartIn) : List UInt8 := linesText p.1 ++ 13 :: 10 :: p.2
def tailT (bd : List UInt8) (cut : Option PartIn) : List PartIn → List UInt8
  | [] => match cut with
    | none => [45, 45, 13, 10]
    | some p => 13 :: 10 :: partIn p
  | p :: r => 13 :: 10 :: (partIn p ++ (nldOf bd ++ tailT bd cut r))
def wholeT (bd : List UInt8) (cut : Option PartIn) (ps : List PartIn) : List UInt8 := if ps = [] ∧ cut = none then nldOf bd ++ tailT bd cut ps else dashOf bd ++ tailT bd cut ps
structure GoodIn (bd : List UInt8) (p : PartIn) : Prop where
  lines : ∀ kv ∈ p.1, LineOk kv
  few : p.1.length ≤ 110
  nw : Nowhere p.2 (nldOf bd)
  dash : (dashOf bd).isPrefixOf p.2 = false
  small : p.2.length < 2 ^ 38
def resOf (p : PartIn) : PartL := (sortHs (hdrOf p.1), p.2)
theorem dash_tail {bd b t : List UInt8} (hb : BdR bd) (h : (dashOf bd).isPrefixOf b = false) : (dashOf bd).isPrefixOf (b ++ (nldOf bd ++ t)) = false := by
  rw [← Bool.not_eq_true] at h ⊢
  intro hp
  apply h
  rw [List.isPrefixOf_iff_prefix] at hp ⊢
  by_cases hl : (dashOf bd).length ≤ b.length
  · exact List.prefix_of_prefix_length_le hp (List.prefix_append _ _) hl
  · exfalso
    obtain ⟨r, hr⟩ := hp
    have hlt : b.length < (dashOf bd).length := by omega
    have h1 : (b ++ (nldOf bd ++ t))[b.length]? = some 13 := by
      rw [List.getElem?_append_right (Nat.le_refl _), Nat.sub_self]
      rfl
    rw [← hr, List.getElem?_append_left hlt] at h1
    exact dash_nocr hb (List.mem_of_getElem? h1)
theorem tailT_full (bd : List UInt8) (cut : Option PartIn) (ps : List PartIn) : FullT (tailT bd cut ps) := by
  cases ps with
  | nil =>
    cases cut with
    | none => exact fullT_end _
    | some p => exact fullT_crlf _
  | cons p r => exact fullT_crlf _
structure Given (S : Stk) (mr tb : Nat) (m : MRf) (bd : List UInt8) (B : Nat) (ea ua : Addr) (mode : Option (List UInt8)) (p : PartIn) (pt hm : Nat) (E : List Ent) (H : Heap) : Prop where
  rb : ∃ s, RB (rawEnv S mr tb { m with parts := m.parts + 1, cur := .pointer (some ⟨pt, 0, none⟩) } bd B ea ua mode pt hm) p.2 0 0 .go false s H
  ents : ∃ N, Ents H hm N E
  hd : E.map Ent.hd = hdrOf p.1
theorem nextRaw_ok {S : Stk} {mr tb : Nat} {m : MRf} {bd : List UInt8} {B : Nat} {ea ua : Addr} {H : Heap} {X : List Nat} {pre : List UInt8} {p : PartIn} {mode : Option (List UInt8)} (hcl : Closes S mr tb m bd B ea ua (pre ++ (dashOf bd ++ 13 :: 10 :: (partIn p ++ modeTail bd mode))) X H) (hb : GoodBd bd)
    (hpre : (m.parts = 0 ∧ pre = []) ∨ (0 < m.parts ∧ m.parts < 2 ^ 40 ∧ pre = [13, 10])) (hp : GoodIn bd p) (hmode : ∀ t, mode = some t → FullT t) (hX : ∀ x ∈ X, x < H.size) (hbr : BdR bd) :
    CallsH Tryz.prog 71 #[.pointer (some ⟨mr, 0, none⟩), .bool true, .int .i64 10485760, .int .i64 10000] H fun x H' => ∃ pt hm E, x = .tuple #[.pointer (some ⟨pt, 0, none⟩), .nilIface] ∧ Given S mr tb m bd B ea ua mode p pt hm E H' ∧ Frm (mr :: X ++ S.ids) H H' ∧ H.size ≤ pt ∧ pt < H'.size := by
  have hd0 : (dashOf bd).isPrefixOf (p.2 ++ modeTail bd mode) = false := by
    cases mode with
    | none => simpa [modeTail] using hp.dash
    | some t => exact dash_tail hbr hp.dash
  refine next_ok (pre := pre) (r := partIn p ++ modeTail bd mode) (by simpa [dashOf] using hcl) hb hpre fun H1 s1 h1 hr1 f1 => ?_
  refine (newPart_ok h1 (ls := p.1) (b := p.2) (mode := mode) (by rw [hr1]; simp [partIn]) hp.lines hp.few hp.nw hd0 hmode hp.small).mono ?_
  rintro x H2 ⟨pt, hm, N, E, s2, rfl, hrb, hE, hhd, f2, hge, hlt, hblk⟩
  refine ⟨⟨pt, 0, none⟩, rfl, hrb.ma.hm, fun H3 hm3 f3 z3 => ⟨pt, hm, E, rfl, ⟨⟨s2, hrb.setm hm3 f3 ⟨rfl, rfl, rfl, rfl, rfl⟩⟩, ⟨N, hE.frm f3 (fun x hx => ?_)⟩, hhd⟩, ?_, ?_, ?_⟩⟩
  · have h4 := (hblk x hx).1
    have h5 := lt_of_some h1.ma.hm
    rw [List.mem_singleton]
    omega
  · exact (f1.trans (f2.mono (fun x hx => by simp [hx]))).trans (f3.mono (by simp))
  · have := f1.size; omega
  · omega
theorem allRaw_ok {S : Stk} {mr tb : Nat} {m : MRf} {bd : List UInt8} {B : Nat} {ea ua : Addr} {mode : Option (List UInt8)} {b : List UInt8} {pt hm : Nat} {s : St} {H : Heap} (h : RB (rawEnv S mr tb m bd B ea ua mode pt hm) b 0 0 .go false s H) (hv : ∀ x, blk S.v = some x → x < H.size) (htb : tb < H.size) (hB : B ≤ H.size) :
    CallsH Tryz.prog 68 #[.iface 116 (.pointer (some ⟨pt, 0, none⟩))] H fun x H' => ∃ k out d, x = .tuple #[out, .bool mode.isSome] ∧ OwnB H' k out d ∧ d <+: b ∧ (mode.isSome = true → d = b) ∧
      (∀ t, mode = some t → ∃ total s', RB (rawEnv S mr tb m bd B ea ua mode pt hm) [] 0 total .eof false s' H') ∧ Frm (pt :: S.ids) H H' ∧ (∀ g, k = some g → H.size ≤ g) := by
  have hlt : ∀ x ∈ pt :: mr :: tb :: S.ids, x < H.size := fun x hx => by
    rcases List.mem_cons.1 hx with rfl | hx
    · exact lt_of_some h.hp
    · rcases List.mem_cons.1 hx with rfl | hx
      · exact lt_of_some h.ma.hm
      · rcases List.mem_cons.1 hx with rfl | hx
        · exact htb
        · exact h.rd.ids_lt x hx
  refine (all_ok (e := rawEnv S mr tb m bd B ea ua mode pt hm) rfl h hB hlt hv).mono ?_
  rintro x H' ⟨k, out, d, b', total, ev, re, s', rfl, hout, hdb, h', hne, f, hk⟩
  cases mode with
  | none =>
    have hc := (h'.cut rfl).1
    cases ev with
    | go => exact absurd rfl hne
    | eof => exact absurd rfl hc
    | re => exact ⟨k, out, d, rfl, hout, ⟨b', hdb⟩, by simp, by simp, f, hk⟩
  | some t =>
    obtain ⟨_, hre, h1, h2⟩ := h'.full t rfl
    cases ev with
    | go => exact absurd rfl hne
    | re => exact absurd rfl h1
    | eof =>
      have hb0 : b' = [] := List.eq_nil_of_length_eq_zero (h2 rfl).symm
      subst hb0
      subst hre
      rw [List.append_nil] at hdb
      subst hdb
      exact ⟨k, out, d, rfl, hout, List.prefix_refl _, fun _ => rfl, fun t' ht' => ⟨total, s', h'⟩, f, hk⟩
end Go.Cps
namespace Go.Cps
open Go Go.Proofs
theorem OwnS.new {α : Type} {w T : Nat} {R : List Nat → Heap → α → List Value → Prop} (hR : RelOk R) {D : List Nat} {H : Heap} {k : Option Nat} {v : Value} {l : List α} {g : Nat} (h : OwnS w T R D H k v l) (hg : H.size ≤ g) : OwnS w T R (g :: D) H k v l := by
  cases k with
  | none => exact h
  | some q =>
    obtain ⟨cells, c, rfl, hq, hc, hl, hqD, he⟩ := h
    have hql := lt_of_some hq
    refine ⟨cells, c, rfl, hq, hc, hl, fun hm => ?_, fun j hj => ?_⟩
    · rcases List.mem_cons.1 hm with rfl | hm
      · omega
      · exact hqD hm
    · obtain ⟨vs, g1, g2, g3⟩ := he j hj
      exact ⟨vs, g1, hR.sub (fun x hx => by
        simp only [List.mem_cons] at hx ⊢
        rcases hx with h | h | h
        · exact .inr (.inl h)
        · exact .inl h
        · exact .inr (.inr h)) (hR.new g2 hg), g3⟩
theorem partStep_ok {S : Stk} {mr tb : Nat} {bd : List UInt8} {B : Nat} {ea ua : Addr} {Hs H : Heap} {n : Nat} {rs : List PartL} {p : PartIn} {mode : Option (List UInt8)} {k : Option Nat} {out : Value} {X : List Nat} {m : MRf} {E0 R1 K1 : Value → Heap → Prop} (h5 : S.tbf = 5) (hgb : GoodBd bd) (hbr : BdR bd)
    (hown : OwnS 2 39 PartR (X ++ mr :: S.ids) H k out rs) (hcl : Closes S mr tb m bd B ea ua ((if n = 0 then [] else [13, 10]) ++ (dashOf bd ++ 13 :: 10 :: (partIn p ++ modeTail bd mode))) X H) (hnp : m.parts = n) (hfr : Frm (mr :: S.ids) Hs H) (hkB : ∀ g, k = some g → Hs.size ≤ g) (hXB : ∀ x ∈ X, Hs.size ≤ x ∧ x < H.size)
    (hlow : (∀ x ∈ mr :: tb :: S.ids, x < Hs.size) ∧ (∀ x, blk S.v = some x → x < Hs.size) ∧ B ≤ Hs.size) (hp : GoodIn bd p) (hmode : ∀ t, mode = some t → FullT t) (hn : n < 2 ^ 35) (hrs : rs.length < 2 ^ 36)
    (hK : ∀ k' out' pt m' d H', OwnS 2 39 PartR (pt :: mr :: S.ids) H' k' out' (rs ++ [(sortHs (hdrOf p.1), d)]) → d <+: p.2 → (mode.isSome = true → d = p.2) → (∀ t, mode = some t → Closes S mr tb m' bd B ea ua (nldOf bd ++ t) [pt] H') → m'.parts = n + 1 → Frm (mr :: S.ids) Hs H' → (∀ g, k' = some g → Hs.size ≤ g) → Hs.size ≤ pt ∧ pt < H'.size → if mode.isSome then K1 out' H' else R1 out' H') :
    CallV Tryz.prog (.func (.func 39) #[.pointer (some ⟨mr, 0, none⟩)] #[]) #[] H fun x12 H =>
    Get (extractV x12 0) fun x13 =>
    Get (extractV x12 1) fun x14 =>
    Get (nilV2 .neq .nilIface x14) fun x16 =>
    Br x16 (
    CallsH Tryz.prog 66 #[x14] H fun x19 H => E0 x19 H) (
    CallsH Tryz.prog 67 #[x13] H fun x21 H =>
    Get (some (.iface 116 x13)) fun x24 =>
    CallsH Tryz.prog 68 #[x24] H fun x25 H =>
    Get (extractV x25 0) fun x26 =>
    Get (extractV x25 1) fun x27 =>
    Get ((fillV #[(0, 1), (1, 1)] #[(.slice none 0 0), (.slice none 0 0)] [(0, x21), (1, x26)]).map .agg) fun x31 =>
    Get (Instr.fill (fun j => some (j * 2, 2)) ((Array.range (1 * 2)).map ((#[(.slice none 0 0), (.slice none 0 0)] : Array Value)[· % 2]!)) [(0, x31)]) fun cs => NewSl cs 39 1 H fun x32 H =>
    Append 39 2 48 #[(.slice none 0 0), (.slice none 0 0)] out x32 H fun x33 H =>
    Get (unV .not x27) fun x35 =>
    Br x35 (R1 x33 H) (K1 x33 H)) := by
  have hHs := hfr.size
  refine ⟨39, #[.pointer (some ⟨mr, 0, none⟩)], #[], rfl, bodyd39, ?_⟩
  apply s39
  unfold c39
  apply s72
  unfold c72
  have hpre : (m.parts = 0 ∧ (if n = 0 then [] else [13, 10]) = ([] : List UInt8)) ∨ (0 < m.parts ∧ m.parts < 2 ^ 40 ∧ (if n = 0 then [] else [13, 10]) = ([13, 10] : List UInt8)) := by
    by_cases h0 : n = 0
    · exact .inl ⟨by omega, by rw [if_pos h0]⟩
    · exact .inr ⟨by omega, by omega, by rw [if_neg h0]⟩
  refine (nextRaw_ok hcl hgb hpre hp hmode (fun x hx => (hXB x hx).2) hbr).mono ?_
  rintro x H1 ⟨pt, hm, E, rfl, hg, f1, hge, hlt⟩
  obtain ⟨⟨s, hrb⟩, ⟨N, hE⟩, hhd⟩ := hg
  simp only [Q0, Q1, Q2, Q3, Q4, Q5, Q6, Q7, Q8, Q9, Qa, Qb, Qc, Qd, Qe, Qf, Qg, Qh, Qi, Qj, nilV2_neq_nil]
  have f1' : Frm (mr :: S.ids) Hs H1 := hfr.up f1 (fun x hx => by
    simp only [List.cons_append, List.mem_cons, List.mem_append] at hx
    rcases hx with rfl | hx | hx
    · exact .inl (by simp)
    · exact .inr (hXB x hx).1
    · exact .inl (by simp [hx]))
  have hs1 := f1'.size
  have hDlt : ∀ x ∈ pt :: mr :: S.ids, x < H1.size := fun x hx => by
    rcases List.mem_cons.1 hx with rfl | hx
    · exact hlt
    · have := hlow.1 x (by
        rcases List.mem_cons.1 hx with rfl | hx
        · simp
        · simp [hx])
      omega
  -- what has come before, in the new heap, apart from the new part
  have hown1 : OwnS 2 39 PartR (pt :: mr :: S.ids) H1 k out rs := by
    have hk : ∀ x ∈ mr :: X ++ S.ids, k ≠ some x := fun x hx e => by
      have := (hown.lt x e).2
      apply this
      simp only [List.cons_append, List.mem_cons, List.mem_append] at hx ⊢
      rcases hx with h | h | h
      · exact .inr (.inl h)
      · exact .inl h
      · exact .inr (.inr h)
    have h0 := hown.new Qw (g := pt) hge
    have h1 := h0.frm Qw f1 (fun x hx => ⟨.inl (by
      simp only [List.cons_append, List.mem_cons, List.mem_append] at hx ⊢
      rcases hx with h | h | h
      · exact .inr (.inr (.inl h))
      · exact .inr (.inl h)
      · exact .inr (.inr (.inr h))), hk x hx⟩)
    exact h1.sub Qw (fun x hx => by
      simp only [List.mem_cons, List.mem_append] at hx ⊢
      rcases hx with h | h | h
      · exact .inl h
      · exact .inr (.inr (.inl h))
      · exact .inr (.inr (.inr h)))
  have hkl : ∀ x ∈ k.toList ++ pt :: mr :: S.ids, x < H1.size := fun x hx => by
    rcases List.mem_append.1 hx with h | h
    · exact (hown1.lt x (by simpa using h)).1
    · exact hDlt x h
  refine (headers_ok (D := k.toList ++ pt :: mr :: S.ids) hrb.hp rfl hE hhd (by have := hp.few; omega) hkl).mono ?_
  rintro hv H2 ⟨hhv, f2⟩
  have hrb2 := hrb.frm (X := []) f2 (by simp)
  have hs2 := f2.size
  refine (allRaw_ok hrb2 (fun x hx => by have := hlow.2.1 x hx; omega) (by have := hlow.1 tb (by simp); omega) (by have := hlow.2.2; omega)).mono ?_
  rintro x H3 ⟨kb, bv, d, rfl, hbv, hpre2, hdeq, hrb3, f3, hkb⟩
  have hsz3 := f3.size
  have hptB : Hs.size ≤ pt := by omega
  have hhv3 : HeadsV (k.toList ++ pt :: mr :: S.ids) H3 hv (sortHs (hdrOf p.1)) := hhv.frm Qx f3 (fun x hx => by
    rcases List.mem_cons.1 hx with rfl | hx
    · exact .inl (by simp)
    · exact .inl (by simp only [List.mem_append, List.mem_cons]; exact .inr (.inr (.inr hx))))
  have hbv3 : BytV (k.toList ++ pt :: mr :: S.ids) H3 bv d := hbv.bytV (fun g hg hm => by have h1 := hkb g hg; have h2 := hkl g hm; omega)
  have hbl : isOne bv = true := hbv3.isOne
  have e1 : fillV #[(0, 1), (1, 1)] #[(.slice none 0 0), (.slice none 0 0)] [(0, hv), (1, bv)] = some #[hv, bv] := by
    rw [fillV_cons hhv.isOne rfl (by simp), fillV_cons hbl rfl (by simp), fillV_nil]; rfl
  simp only [Q0, Q1, Q2, Q3, Q4, Q5, Q6, Q7, Q8, Q9, Qa, Qb, Qc, Qd, Qe, Qf, Qg, Qh, Qi, Qj, e1, Option.map_some, fill2, NewSl]
  have f4 : Frm [] H3 (H3.push (.cells #[hv, bv] 39 (0, 0))) := Frm.push _ _ _
  have hb4 := push_same H3 (.cells #[hv, bv] 39 (0, 0))
  have z4 : (H3.push (.cells #[hv, bv] 39 (0, 0))).size = H3.size + 1 := by simp
  generalize H3.push (.cells #[hv, bv] 39 (0, 0)) = H4 at *
  have hkpt : ∀ x ∈ pt :: S.ids, k ≠ some x := fun x hx e => by
    apply (hown1.lt x e).2
    rcases List.mem_cons.1 hx with rfl | hx
    · simp
    · simp [hx]
  have hown4 := ((hown1.frm Qw f2 (by simp)).frm Qw f3 (fun x hx => ⟨.inl (by
    rcases List.mem_cons.1 hx with rfl | hx
    · simp
    · simp [hx]), hkpt x hx⟩)).frm Qw f4 (by simp)
  have f14 : Frm (mr :: S.ids) Hs H4 := ((f1'.trans (f2.mono (by simp))).up f3 (fun x hx => by
    rcases List.mem_cons.1 hx with rfl | hx
    · exact .inr hptB
    · exact .inl (by simp [hx]))).trans (f4.mono (by simp))
  refine append_one Qw (xs := [hv, bv]) (a := (sortHs (hdrOf p.1), d)) hown4 (fun i hi => by rw [cellH_of hb4]; simp) rfl ⟨hv, bv, rfl, hhv3.frm Qx f4 (by simp), hbv3.frm f4 (by simp)⟩ rfl (by omega) (by omega) (fun x hx => by have := hDlt x hx; omega) (by omega) fun k' out' H5 hown5 f5 hk5 => ?_
  have hK' := hK k' out' pt { m with parts := m.parts + 1, cur := .pointer (some ⟨pt, 0, none⟩) } d H5 hown5 hpre2 hdeq (fun t ht => ?_) (by show m.parts + 1 = _; omega) (f14.up f5 (fun x hx => .inr (hkB x (by simpa using hx)))) (fun g hg => ?_) ⟨hptB, by have := f5.size; omega⟩
  · cases hms : mode.isSome with
    | true =>
      rw [hms, if_pos rfl] at hK'
      simp only [Q0, Q1, Q2, Q3, Q4, Q5, Q6, Q7, Q8, Q9, Qa, Qb, Qc, Qd, Qe, Qf, Qg, Qh, Qi, Qj, Bool.not_true]
      exact hK'
    | false =>
      rw [hms, if_neg (by simp)] at hK'
      simp only [Q0, Q1, Q2, Q3, Q4, Q5, Q6, Q7, Q8, Q9, Qa, Qb, Qc, Qd, Qe, Qf, Qg, Qh, Qi, Qj, Bool.not_false]
      exact hK'
  · obtain ⟨total, s', hrb4⟩ := hrb3 t ht
    subst ht
    have hX5 : ∀ x ∈ k.toList, B ≤ x ∧ x ∉ pt :: mr :: tb :: S.ids ∧ blk S.v ≠ some x := fun x hx => by
      have hx' : k = some x := by simpa using hx
      have h1 := hkB x hx'
      have h2 := (hown1.lt x hx').2
      refine ⟨by have := hlow.2.2; omega, fun hm => ?_, fun e => by have := hlow.2.1 x e; omega⟩
      rcases List.mem_cons.1 hm with rfl | hm
      · exact h2 (by simp)
      · have := hlow.1 x hm; omega
    have hrb5 := (hrb4.frm (X := []) f4 (by simp)).frm f5 hX5
    have hs5 := f5.size
    exact closeRaw_ok hrb5 h5 (fun x hx => by have := hlow.2.1 x hx; omega) (by have := hlow.1 tb (by simp); omega) (by have := hlow.2.2; omega) rfl
  · rcases hk5 with e | ⟨g', e, hge'⟩
    · exact hkB g (by rw [← e, hg])
    · rw [hg] at e; cases e; omega
end Go.Cps
namespace Go.Cps
open Go Go.Proofs
theorem tail_pre (bd : List UInt8) (cut : Option PartIn) (ps : List PartIn) : nldOf bd ++ tailT bd cut ps = [13, 10] ++ (dashOf bd ++ tailT bd cut ps) := by simp [nldOf, dashOf]
theorem partsLoop_ok {S : Stk} {s : St} {mr tb : Nat} {m : MRf} {bd : List UInt8} {B : Nat} {ea ua : Addr} {H : Heap} {cut : Option PartIn} {ps : List PartIn} (h : PR S mr tb m bd B ea ua s H) (hr : s.rest S = wholeT bd cut ps) (hm : m.parts = 0) (hc : m.cur = .pointer none) (hgb : GoodBd bd)
    (hps : ∀ p ∈ ps, GoodIn bd p) (hcut : ∀ p, cut = some p → GoodIn bd p) (hn : ps.length < 2 ^ 34) :
    CallsH Tryz.prog 36 #[.func (.func 39) #[.pointer (some ⟨mr, 0, none⟩)] #[]] H fun x H' => ∃ y rs, x = .tuple #[y, .int .i64 (if cut.isSome then 2 else 1)] ∧ PartsV [] H' y rs ∧ Frm (mr :: S.ids) H H' ∧ (match cut with | none => rs = ps.map resOf | some p => ∃ d, d <+: p.2 ∧ rs = ps.map resOf ++ [(sortHs (hdrOf p.1), d)]) := by
  apply s36
  unfold c36
  have hbr := h.bdr
  have h5 := h.tbf
  have hlow : (∀ x ∈ mr :: tb :: S.ids, x < H.size) ∧ (∀ x, blk S.v = some x → x < H.size) ∧ B ≤ H.size := ⟨h.lt, h.vlt, h.base⟩
  refine ⟨fun μ vs H1 => ∃ done todo k out X m, ps = done ++ todo ∧ μ = todo.length ∧ vs = [out] ∧ OwnS 2 39 PartR (X ++ mr :: S.ids) H1 k out (done.map resOf) ∧
      Closes S mr tb m bd B ea ua ((if done = [] ∧ ¬ (todo = [] ∧ cut = none) then [] else [13, 10]) ++ (dashOf bd ++ tailT bd cut todo)) X H1 ∧ m.parts = done.length ∧ Frm (mr :: S.ids) H H1 ∧ (∀ g, k = some g → H.size ≤ g) ∧ ∀ x ∈ X, H.size ≤ x ∧ x < H1.size,
    ⟨_, [], ps, none, _, [], m, rfl, rfl, rfl, ⟨rfl, rfl⟩, .inl ⟨hc, s, h, ?_⟩, by simpa using hm, Frm.refl _ _, by simp, by simp⟩, ?_⟩
  · rw [hr, wholeT]
    by_cases he : ps = [] ∧ cut = none
    · rw [if_pos he, if_neg (by simp [he]), tail_pre]
    · rw [if_neg he, if_pos ⟨rfl, he⟩]; rfl
  clear h hr hm hc
  rintro μ vs H1 ⟨done, todo, k, out, X, m, hdt, rfl, rfl, hown, hcl, hnp, hfr, hkB, hXB⟩
  have hdl : done.length + todo.length = ps.length := by rw [hdt]; simp
  simp only [Q9]
  cases todo with
  | nil =>
    rw [List.append_nil] at hdt
    obtain rfl : done = ps := hdt.symm
    cases cut with
    | none =>
      rw [if_neg (by simp)] at hcl
      refine ⟨39, #[.pointer (some ⟨mr, 0, none⟩)], #[], rfl, bodyd39, ?_⟩
      apply s39
      unfold c39
      apply s72
      unfold c72
      refine (nextPart_end (by simpa [dashOf, tailT] using hcl) hgb).mono ?_
      rintro x H2 ⟨rfl, f2, s2, h2⟩
      simp only [Q0, Q1, Q2, Q3, Q4, Q5, Q6, Q7, Q8, Q9, Qa, Qb, Qc, Qd, Qe, Qf, Qg, Qh, Qi, Qj, nilV2_neq_iface]
      refine (state_end h2.er.eof).mono ?_
      rintro x H3 ⟨rfl, rfl⟩
      have hown2 := hown.frm Qw f2 (fun x hx => ⟨.inl (by
        simp only [List.mem_append, List.mem_cons] at hx ⊢
        rcases hx with h | h
        · exact .inl h
        · exact .inr (.inr h)), fun e => (hown.lt x e).2 (by
        simp only [List.mem_append, List.mem_cons] at hx ⊢
        rcases hx with h | h
        · exact .inl h
        · exact .inr (.inr h))⟩)
      refine ⟨out, _, rfl, (hown2.slV Qw).sub Qw (by simp), hfr.up f2 (fun x hx => ?_), rfl⟩
      rcases List.mem_append.1 hx with hx | hx
      · exact .inr (hXB x hx).1
      · exact .inl (by simp [hx])
    | some p =>
      refine partStep_ok (ea := ea) (ua := ua) (mode := none) (n := done.length) h5 hgb hbr hown ?_ hnp hfr hkB hXB hlow (hcut p rfl) (by simp) (by omega) (by simp; omega) fun k' out' pt m' d H' g1 g2 g3 g4 g5 g6 g7 g8 => ?_
      · by_cases h0 : done = []
        · subst h0
          simpa [tailT, modeTail] using hcl
        · have h1 : ¬ done.length = 0 := fun e => h0 (List.eq_nil_of_length_eq_zero e)
          rw [if_neg h1]
          rw [if_neg (by simp [h0])] at hcl
          simpa [tailT, modeTail] using hcl
      · rw [if_neg (by simp)]
        exact ⟨out', _, rfl, (g1.slV Qw).sub Qw (by simp), g6, d, g2, rfl⟩
  | cons p todo =>
    refine partStep_ok (ea := ea) (ua := ua) (mode := some (tailT bd cut todo)) (n := done.length) h5 hgb hbr hown ?_ hnp hfr hkB hXB hlow (hps p (by rw [hdt]; simp)) (fun t ht => by cases ht; exact tailT_full _ _ _) (by omega) (by simp; omega) fun k' out' pt m' d H' g1 g2 g3 g4 g5 g6 g7 g8 => ?_
    · by_cases h0 : done = []
      · subst h0
        simpa [tailT, modeTail] using hcl
      · have h1 : ¬ done.length = 0 := fun e => h0 (List.eq_nil_of_length_eq_zero e)
        rw [if_neg h1]
        rw [if_neg (by simp [h0])] at hcl
        simpa [tailT, modeTail] using hcl
    · rw [if_pos (by rfl)]
      have hd := g3 rfl
      subst hd
      refine ⟨todo.length, by simp, done ++ [p], todo, k', out', [pt], m', by rw [hdt]; simp, rfl, rfl, ?_, ?_, ?_, g6, g7, ?_⟩
      · rw [List.map_append]; exact g1
      · rw [if_neg (by simp), ← tail_pre]; exact g4 _ rfl
      · rw [g5]; simp
      · intro x hx; rw [List.mem_singleton] at hx; subst hx; exact g8
theorem parts_ok {bd : List UInt8} {v : Value} {B : Nat} {ea ua : Addr} {H : Heap} {cut : Option PartIn} {ps : List PartIn} (hv : IsBytes H v (wholeT bd cut ps)) (hE : Errs B ea ua H) (hB : B ≤ H.size) (hgb : GoodBd bd) (hbr : BdR bd) (hl : (wholeT bd cut ps).length < 2 ^ 39)
    (hps : ∀ p ∈ ps, GoodIn bd p) (hcut : ∀ p, cut = some p → GoodIn bd p) (hn : ps.length < 2 ^ 34) :
    CallsH Tryz.prog 11 #[v, strVal bd] H fun x H' => ∃ y rs, x = .tuple #[y, .int .i64 (if cut.isSome then 2 else 1)] ∧ PartsV [] H' y rs ∧ Frm [] H H' ∧ (match cut with | none => rs = ps.map resOf | some p => ∃ d, d <+: p.2 ∧ rs = ps.map resOf ++ [(sortHs (hdrOf p.1), d)]) := by
  have hlen := hgb.len
  apply s11
  unfold c11
  refine (source_ok hv (by omega)).mono ?_
  rintro x H1 ⟨br, u, rfl, hbr1, hu, f1, hge, hvb, hbs⟩
  have h0 : 0 < H.size := by obtain ⟨t, f, h⟩ := hE.eof; exact lt_of_some h
  refine (newReader_ok hbr1 hu (fun x hx => ⟨(hvb x hx).2.1, (hvb x hx).2.2⟩) (hE.eof.frm f1 (by simp)) (by omega) (by omega) (by omega)).mono ?_
  rintro x H2 ⟨S, s, mr, tb, m, rfl, hrd, hmr, hrest, herr, hparts, hcur, hEt, hEv, f2, hge2, rfl, rfl, h5, htb⟩
  have f12 : Frm [] H H2 := f1.trans f2
  have hge3 : ∀ y ∈ mr :: tb :: S.ids, H.size ≤ y := fun y hy => by
    by_cases hyb : y = S.br
    · omega
    · have := hge2 y hy hyb; have := f1.size; omega
  have hPR : PR S mr tb m bd B ea ua s H2 := ⟨hrd, hmr, hE.frm f12 (by simp), hbr, fun x hx => by have := hge3 x hx; omega, ⟨hEt, hEv⟩, h5, fun x hx => by have := (hvb x hx).2.2; have := f2.size; omega, htb, by have := f12.size; omega⟩
  refine (partsLoop_ok hPR hrest hparts hcur hgb hps hcut hn).mono ?_
  rintro x H3 ⟨y, rs, rfl, hy, f3, hrs⟩
  simp only [Q0, Q1, Q2, Q3, Q4, Q5, Q6, Q7, Q8, Q9, Qa, Qb, Qc, Qd, Qe, Qf, Qg, Qh, Qi, Qj]
  refine ⟨y, rs, rfl, hy, f12.up f3 (fun x hx => .inr (hge3 x ?_)), hrs⟩
  rcases List.mem_cons.1 hx with rfl | hx
  · simp
  · simp [hx]
end Go.Cps
