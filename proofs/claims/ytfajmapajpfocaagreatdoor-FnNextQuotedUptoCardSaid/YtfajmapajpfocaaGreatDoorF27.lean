/-
  A part of the proof: The laying of the shelf at this program: slices.Sorted(maps.Keys(m)); what it does at heap level. CreatePart of a Writer: the delimiter, the lines of the header in the order of the keys. CreatePart of a Writer. CanonicalMIMEHeaderKey of a canonical key; MIMEHeader.Set; CreateFormField, CreateFormFile, WriteField.
  Conditions: each contract's own.
-/
import Derived.Shelf.SlIter.Sorted
import Derived.Shelf.SortM.Plain
import Derived.Shelf.SortM.SortNone
import Derived.Test.YtfajmapajpfocaaGreatDoorF10
import Derived.Test.YtfajmapajpfocaaGreatDoorF25
import Derived.Test.YtfajmapajpfocaaGreatDoorF26
set_option linter.all false
namespace Go.Cps
open Go Go.Proofs Go.Shelf Go.RowKit Go.Maps Go.Sort
set_option maxRecDepth 100000
def layKeys_ren : Ren := ⟨fun x => match x with | 7 => 64 | 10 => 87 | n => n, fun x => match x with | 23 => 106 | 26 => 9 | 3 => 88 | 28 => 110 | 0 => 0 | 27 => 109 | 33 => 22 | 4 => 4 | n => n, fun n => n⟩
theorem layKeys : SlLaysZ.n7 Tryz.prog layKeys_ren :=
  { mixed := by kernel_rfl,
    f7 := ⟨"maps.Keys[loop.example/pub-mailparts/pub/textproto.MIMEHeader,string,[]string]", by kernel_rfl, by kernel_rfl⟩,
    f10 := ⟨"maps.Keys[loop.example/pub-mailparts/pub/textproto.MIMEHeader,string,[]string]$1", by kernel_rfl, by kernel_rfl⟩,
    t0 := by kernel_rfl,
    a0 := fun _ => by kernel_rfl,
    z0 := fun _ => by kernel_rfl,
    v0 := fun _ => by kernel_rfl,
    t4 := by kernel_rfl,
    a4 := fun _ => by kernel_rfl,
    z4 := fun _ => by kernel_rfl,
    v4 := fun _ => by kernel_rfl,
    t23 := by kernel_rfl,
    a23 := fun _ => by kernel_rfl,
    z23 := fun _ => by kernel_rfl,
    v23 := fun _ => by kernel_rfl,
    t26 := by kernel_rfl,
    a26 := fun _ => by kernel_rfl,
    z26 := fun _ => by kernel_rfl,
    v26 := fun _ => by kernel_rfl,
    t27 := by kernel_rfl,
    a27 := fun _ => by kernel_rfl,
    z27 := fun _ => by kernel_rfl,
    v27 := fun _ => by kernel_rfl,
    t28 := by kernel_rfl,
    a28 := fun _ => by kernel_rfl,
    z28 := fun _ => by kernel_rfl,
    v28 := fun _ => by kernel_rfl,
    t33 := by kernel_rfl,
    a33 := fun _ => by kernel_rfl,
    z33 := fun _ => by kernel_rfl,
    v33 := fun _ => by kernel_rfl }
def laySorted_ren : Ren := ⟨fun x => match x with | 6 => 63 | 8 => 85 | 9 => 86 | 11 => 104 | 13 => 106 | 12 => 105 | 23 => 132 | 24 => 133 | 14 => 123 | 15 => 124 | 16 => 125 | 17 => 126 | 18 => 127 | 19 => 128 | 20 => 129 | 21 => 130 | 22 => 131 | 25 => 149 | 26 => 150 | 27 => 151 | 28 => 152 | 29 => 153 | 30 => 154 | 31 => 162 | n => n, fun x => match x with | 26 => 9 | 28 => 110 | 24 => 88 | 0 => 0 | 3 => 3 | 37 => 170 | 48 => 204 | 50 => 206 | 4 => 4 | 40 => 198 | 39 => 197 | 45 => 141 | 5 => 5 | 9 => 9 | 51 => 225 | 55 => 229 | 57 => 245 | 58 => 246 | 33 => 22 | n => n, fun n => n⟩
theorem laySorted : SlLaysZ.n6 Tryz.prog laySorted_ren :=
  { mixed := by kernel_rfl,
    f6 := ⟨"slices.Sorted[string]", by kernel_rfl, by kernel_rfl⟩,
    f8 := ⟨"slices.Collect[string]", by kernel_rfl, by kernel_rfl⟩,
    f11 := ⟨"slices.AppendSeq[[]string,string]", by kernel_rfl, by kernel_rfl⟩,
    t0 := by kernel_rfl,
    a0 := fun _ => by kernel_rfl,
    z0 := fun _ => by kernel_rfl,
    v0 := fun _ => by kernel_rfl,
    t24 := by kernel_rfl,
    a24 := fun _ => by kernel_rfl,
    z24 := fun _ => by kernel_rfl,
    v24 := fun _ => by kernel_rfl,
    t26 := by kernel_rfl,
    a26 := fun _ => by kernel_rfl,
    z26 := fun _ => by kernel_rfl,
    v26 := fun _ => by kernel_rfl,
    t28 := by kernel_rfl,
    a28 := fun _ => by kernel_rfl,
    z28 := fun _ => by kernel_rfl,
    v28 := fun _ => by kernel_rfl,
    i26 := by kernel_rfl }
def laySort_ren : Ren := ⟨fun x => match x with | 6 => 86 | 8 => 106 | 9 => 105 | 19 => 132 | 20 => 133 | 21 => 123 | 22 => 124 | 23 => 125 | 24 => 126 | 25 => 127 | 26 => 128 | 27 => 129 | 28 => 130 | 29 => 131 | 36 => 149 | 31 => 150 | 32 => 151 | 37 => 152 | 38 => 153 | 39 => 154 | 41 => 162 | n => n, fun x => match x with | 27 => 88 | 29 => 9 | 3 => 3 | 32 => 170 | 26 => 88 | 0 => 0 | 44 => 204 | 46 => 206 | 4 => 4 | 36 => 198 | 35 => 197 | 41 => 141 | 5 => 5 | 9 => 9 | 53 => 225 | 57 => 229 | 63 => 245 | 64 => 246 | n => n, fun n => n⟩
theorem laySort : SlLaysM.n6 Tryz.prog laySort_ren :=
  { mixed := by kernel_rfl,
    f6 := ⟨"slices.Sort[[]string,string]", by kernel_rfl, by kernel_rfl⟩,
    f8 := by kernel_rfl,
    f9 := ⟨"slices.pdqsortOrdered[string]", by kernel_rfl, by kernel_rfl⟩,
    f19 := by kernel_rfl,
    f20 := by kernel_rfl,
    f21 := ⟨"slices.insertionSortOrdered[string]", by kernel_rfl, by kernel_rfl⟩,
    f22 := ⟨"slices.heapSortOrdered[string]", by kernel_rfl, by kernel_rfl⟩,
    f23 := ⟨"slices.breakPatternsOrdered[string]", by kernel_rfl, by kernel_rfl⟩,
    f24 := ⟨"slices.choosePivotOrdered[string]", by kernel_rfl, by kernel_rfl⟩,
    f25 := ⟨"slices.reverseRangeOrdered[string]", by kernel_rfl, by kernel_rfl⟩,
    f26 := ⟨"slices.partialInsertionSortOrdered[string]", by kernel_rfl, by kernel_rfl⟩,
    f27 := ⟨"cmp.Less[string]", by kernel_rfl, by kernel_rfl⟩,
    f28 := ⟨"slices.partitionEqualOrdered[string]", by kernel_rfl, by kernel_rfl⟩,
    f29 := ⟨"slices.partitionOrdered[string]", by kernel_rfl, by kernel_rfl⟩,
    f31 := by kernel_rfl,
    f32 := by kernel_rfl,
    f36 := ⟨"slices.siftDownOrdered[string]", by kernel_rfl, by kernel_rfl⟩,
    f37 := ⟨"slices.medianAdjacentOrdered[string]", by kernel_rfl, by kernel_rfl⟩,
    f38 := ⟨"slices.medianOrdered[string]", by kernel_rfl, by kernel_rfl⟩,
    f39 := ⟨"cmp.isNaN[string]", by kernel_rfl, by kernel_rfl⟩,
    f41 := ⟨"slices.order2Ordered[string]", by kernel_rfl, by kernel_rfl⟩,
    t0 := by kernel_rfl,
    a0 := fun _ => by kernel_rfl,
    z0 := fun _ => by kernel_rfl,
    v0 := fun _ => by kernel_rfl,
    t3 := by kernel_rfl,
    a3 := fun _ => by kernel_rfl,
    z3 := fun _ => by kernel_rfl,
    v3 := fun _ => by kernel_rfl,
    t4 := by kernel_rfl,
    a4 := fun _ => by kernel_rfl,
    z4 := fun _ => by kernel_rfl,
    v4 := fun _ => by kernel_rfl,
    t5 := by kernel_rfl,
    a5 := fun _ => by kernel_rfl,
    z5 := fun _ => by kernel_rfl,
    v5 := fun _ => by kernel_rfl,
    t9 := by kernel_rfl,
    a9 := fun _ => by kernel_rfl,
    z9 := fun _ => by kernel_rfl,
    v9 := fun _ => by kernel_rfl,
    t26 := by kernel_rfl,
    a26 := fun _ => by kernel_rfl,
    z26 := fun _ => by kernel_rfl,
    v26 := fun _ => by kernel_rfl,
    t27 := by kernel_rfl,
    a27 := fun _ => by kernel_rfl,
    z27 := fun _ => by kernel_rfl,
    v27 := fun _ => by kernel_rfl,
    t29 := by kernel_rfl,
    a29 := fun _ => by kernel_rfl,
    z29 := fun _ => by kernel_rfl,
    v29 := fun _ => by kernel_rfl,
    t32 := by kernel_rfl,
    a32 := fun _ => by kernel_rfl,
    z32 := fun _ => by kernel_rfl,
    v32 := fun _ => by kernel_rfl,
    t35 := by kernel_rfl,
    a35 := fun _ => by kernel_rfl,
    z35 := fun _ => by kernel_rfl,
    v35 := fun _ => by kernel_rfl,
    t36 := by kernel_rfl,
    a36 := fun _ => by kernel_rfl,
    z36 := fun _ => by kernel_rfl,
    v36 := fun _ => by kernel_rfl,
    t41 := by kernel_rfl,
    a41 := fun _ => by kernel_rfl,
    z41 := fun _ => by kernel_rfl,
    v41 := fun _ => by kernel_rfl,
    t44 := by kernel_rfl,
    a44 := fun _ => by kernel_rfl,
    z44 := fun _ => by kernel_rfl,
    v44 := fun _ => by kernel_rfl,
    t46 := by kernel_rfl,
    a46 := fun _ => by kernel_rfl,
    z46 := fun _ => by kernel_rfl,
    v46 := fun _ => by kernel_rfl,
    t53 := by kernel_rfl,
    a53 := fun _ => by kernel_rfl,
    z53 := fun _ => by kernel_rfl,
    v53 := fun _ => by kernel_rfl,
    t57 := by kernel_rfl,
    a57 := fun _ => by kernel_rfl,
    z57 := fun _ => by kernel_rfl,
    v57 := fun _ => by kernel_rfl,
    t63 := by kernel_rfl,
    a63 := fun _ => by kernel_rfl,
    z63 := fun _ => by kernel_rfl,
    v63 := fun _ => by kernel_rfl,
    t64 := by kernel_rfl,
    a64 := fun _ => by kernel_rfl,
    z64 := fun _ => by kernel_rfl,
    v64 := fun _ => by kernel_rfl }
theorem sortsIn63 (m : Nat) : AnyZ.SortsIn Tryz.prog laySorted_ren Fence.wide m :=
  ⟨fun blk off cap ss W hH hblk hsz => callsIn_wide.2 (AnyM.slices_Sort_string laySort blk off cap ss W hH hblk hsz),
   fun p cap W => callsIn_wide.2 (AnyM.slices_Sort_string_none laySort p cap W)⟩
theorem keys64 (mb : Option Nat) (W : World) : CallsIn Fence.wide 5 Tryz.prog 64 #[.map mb] W fun e w' => e = .returned (.func (.func 87) #[] #[.pointer (some ⟨W.heap.size, 0, none⟩)]) ∧ w' = W.alloc (.cells #[.map mb] 106) :=
  AnyZ.keys_in layKeys Fence.wide 5 trivial rfl mb W
def rAny (_ : Value) : Option (DataW Unit × List MemPlace) := some (.nil, [])
theorem strs_inj : ∀ {a b : List (List UInt8)}, True → a.map strVal = b.map strVal → a = b
  | [], [], _, _ => rfl
  | [], _ :: _, _, h => by simp at h
  | _ :: _, [], _, h => by simp at h
  | x :: a, y :: b, _, h => by
    simp only [List.map_cons, List.cons.injEq] at h
    have hxy : x = y := by simpa [strVal] using h.1
    rw [hxy, strs_inj trivial h.2]
theorem key9 {l : List UInt8} (h : l.length < 2 ^ 40) : Go.keyOf Tryz.prog 9 (strVal l) = some (.string l) := by
  have hs : (⟨l.toArray⟩ : ByteArray).size ≤ maxLen := by rw [bstr_size]; unfold maxLen; omega
  simp [Go.keyOf, mapKey, und9, strVal, hs]
theorem ents_own {H : Heap} {m : Nat} {E : List (List UInt8 × Value)} (h : MapAt H m E) (hk : (E.map (·.1)).Nodup) (hl : ∀ e ∈ E, e.1.length < 2 ^ 40) (hn : E.length < 2 ^ 30) (w : World) (hw : w.heap = H) :
    ∃ D0 : DataW Unit, w.ownsMap Tryz.prog 9 rAny m E.length D0 ∧ (strKeys D0).Perm (E.map (·.1)) ∧ Maps.size D0 = E.length := by
  subst hw
  obtain ⟨es, c, h1, h2, h3, h4⟩ := h
  have hlen : es.size = E.length := by
    have := congrArg List.length h2
    simpa [entsOf] using this
  have hkeys : es.toList.map (·.key) = E.map fun e => strVal e.1 := by
    have := congrArg (List.map (·.1)) h2
    simpa [entsOf, Function.comp_def] using this
  have hrd : ∀ x ∈ es.toList, ∃ e ∈ E, x.key = strVal e.1 ∧ Go.WideElems.rd Tryz.prog 9 rAny x = some (.string e.1, .nil) := fun x hx => by
    have : x.key ∈ E.map fun e => strVal e.1 := by rw [← hkeys]; exact List.mem_map.2 ⟨x, hx, rfl⟩
    obtain ⟨e, he, hke⟩ := List.mem_map.1 this
    refine ⟨e, he, hke.symm, ?_⟩
    simp [Go.WideElems.rd, ← hke, key9 (hl e he), rAny]
  have hinj : (es.toList.map (·.key)).Nodup := by
    rw [hkeys]
    have := List.Pairwise.map (f := fun l : List UInt8 => strVal l) (R := (· ≠ ·)) (S := (· ≠ ·)) (fun a b hab he => hab (by simpa [strVal] using he)) hk
    rw [List.map_map] at this
    exact this
  refine ⟨_, ⟨es, c, h1, ⟨by unfold maxLen; omega, ⟨h4, h3, hinj⟩, fun x hx => ?_⟩, by omega, rfl⟩, ?_, ?_⟩
  · obtain ⟨e, _, _, hr⟩ := hrd x hx
    exact ⟨_, hr⟩
  · have hp := Go.WideShapes.sorted_perm (es.toList.map (Go.WideElems.rg Tryz.prog 9 rAny))
    have hp2 := hp.map (fun p => strOf p.1)
    have e1 : (es.toList.map (Go.WideElems.rg Tryz.prog 9 rAny)).map (fun p => strOf p.1) = E.map (·.1) := by
      have e2 : (es.toList.map (Go.WideElems.rg Tryz.prog 9 rAny)).map (fun p => Value.string ⟨(strOf p.1).toArray⟩) = es.toList.map (·.key) := by
        rw [List.map_map]
        refine List.map_congr_left fun x hx => ?_
        obtain ⟨e, _, hke, hr⟩ := hrd x hx
        simp only [Function.comp_apply, Go.WideElems.rg_of hr, strOf, hke, strVal]
      have e3 : ((es.toList.map (Go.WideElems.rg Tryz.prog 9 rAny)).map (fun p => strOf p.1)).map strVal = (E.map (·.1)).map strVal := by
        rw [hkeys] at e2
        rw [List.map_map, List.map_map (f := fun e : List UInt8 × Value => e.1)]
        exact e2
      exact strs_inj trivial e3
    rw [e1] at hp2
    exact hp2
  · have hp := Go.WideShapes.sorted_perm (es.toList.map (Go.WideElems.rg Tryz.prog 9 rAny))
    show List.length _ = _
    rw [hp.length_eq]
    simpa using hlen
theorem sorted_eq {ss ks : List (List UInt8)} (h : ss.Perm ks) (hk : ks.Pairwise (· < ·)) : (ss.mergeSort fun x y => decide (x ≤ y)) = ks := by
  refine List.Perm.eq_of_pairwise (le := fun a b : List UInt8 => a ≤ b) (fun a b _ _ h1 h2 => List.le_antisymm h1 h2) ?_ (hk.imp fun h => List.le_of_lt h) ((List.mergeSort_perm _ _).trans h)
  have := List.pairwise_mergeSort (le := fun x y : List UInt8 => decide (x ≤ y)) (fun a b c h1 h2 => by simp only [decide_eq_true_eq] at *; exact List.le_trans h1 h2) (fun a b => by simpa using List.le_total a b) ss
  exact this.imp fun h => by simpa using h
theorem ownsRow_strs {w : World} {base : Nat} {D : List Nat} {v : Value} {l : List (List UInt8)} (h : w.ownsRow base 9 1 v l.length (l.map encStr)) (hD : ∀ x ∈ D, x < base) : StrsV D w.heap v l := by
  obtain ⟨_, ⟨rfl, h0⟩ | ⟨g, cap, cur, rfl, hbase, hg, h1, _, h2, h3⟩⟩ := h
  · exact .inr ⟨_, rfl, List.eq_nil_of_length_eq_zero h0⟩
  · refine .inl ⟨g, 0, cap, rfl, h1, fun hm => by have := hD g hm; omega, lt_of_some hg, fun j hj => ⟨[strVal l[j]], rfl, rfl, fun i hi => ?_⟩⟩
    have hi0 : i = 0 := by omega
    subst hi0
    rw [cellH_of hg]
    have : (cur.toList.take (l.length * 1))[j]? = (l.map encStr)[j]? := by rw [h3]
    rw [List.getElem?_take, if_pos (by omega), List.getElem?_map, List.getElem?_eq_getElem hj, Array.getElem?_toList] at this
    rw [show 0 + (j * 1 + 0) = j by omega, this]
    rfl
theorem sorted63 (n : Nat) (w : World) (b : Nat) (S : List (List UInt8) → Prop) (N : Nat) (hN : N ≤ maxLen) (hNb : N * 16 ≤ 140737488355328) (hseq : SeqGives Fence.wide 2 Tryz.prog 87 #[.pointer (some ⟨b, 0, none⟩)] encStr S N w) :
    CallsIn Fence.wide 5 Tryz.prog 63 #[.func (.func 87) #[] #[.pointer (some ⟨b, 0, none⟩)]] w fun e w' => ∃ (v : Value) (ss : List (List UInt8)), e = .returned v ∧ S ss ∧ w'.ownsRow w.heap.size 9 1 v ss.length ((ss.mergeSort (fun x y => decide (x ≤ y))).map encStr) ∧ (v = .slice none 0 0 ↔ ss = []) ∧ Go.RowKit.Below w.heap.size w w' :=
  AnyZ.sorted_in laySorted Fence.wide 5 trivial trivial trivial trivial rfl (by omega) (sortsIn63 _) (enters_of Tryz.func86 (by kernel_rfl) rfl) 87 #[.pointer (some ⟨b, 0, none⟩)] trivial (enters_of Tryz.func87 (by kernel_rfl) rfl) S N hN hNb w hseq
theorem keysSorted_ok {H : Heap} {m : Nat} {E : List (List UInt8 × Value)} {ks : List (List UInt8)} {K : Value → Heap → Prop} (hE : MapAt H m E) (hks : (E.map (·.1)).Perm ks) (hs : ks.Pairwise (· < ·)) (hl : ∀ e ∈ E, e.1.length < 2 ^ 40) (hn : E.length < 2 ^ 30) {D : List Nat} (hD : ∀ x ∈ D, x < H.size)
    (hK : ∀ v H', StrsV D H' v ks → Frm [] H H' → K v H') :
    CallsH Tryz.prog 64 #[.map (some m)] H fun x48 H => CallsH Tryz.prog 63 #[x48] H K := by
  have hnd : (E.map (·.1)).Nodup := hks.symm.nodup (hs.imp fun h e => by rw [e] at h; exact List.lt_irrefl _ h)
  intro w hw
  refine ((callsIn_wide (n := 5)).1 (keys64 (some m) w)).mono ?_
  rintro e w1 ⟨rfl, rfl⟩
  have hh1 : (w.alloc (.cells #[.map (some m)] 106)).heap = w.heap.push (.cells #[.map (some m)] 106 (0, 0)) := rfl
  have f1 : Frm [] H (w.alloc (.cells #[.map (some m)] 106)).heap := by rw [hh1, hw]; exact Frm.push _ _ _
  refine ⟨_, rfl, ⟨rfl, rfl, rfl⟩, ?_⟩
  generalize hw1 : w.alloc (.cells #[.map (some m)] 106) = w1 at *
  intro w2 hw2
  have hE2 : MapAt w2.heap m E := by rw [hw2]; exact hE.frm f1 (by simp)
  obtain ⟨D0, hown, hperm, hsize⟩ := ents_own hE2 hnd hl hn w2 rfl
  have hcell : w2.cell? ⟨w.heap.size, 0, none⟩ = some (.map (some m)) := by
    rw [cellH_eq, hw2, hh1, cellH_of (push_same _ _)]
    rfl
  have hlt : w.heap.size < w2.heap.size := by rw [hw2, hh1]; simp
  have hseq : SeqGives Fence.wide 2 Tryz.prog 87 #[.pointer (some ⟨w.heap.size, 0, none⟩)] encStr (fun ss => ss.Perm (strKeys D0)) (Maps.size D0) w2 :=
    AnyZ.keys_gives (ρ := layKeys_ren) { layKeys with } Fence.wide _ trivial rfl (by omega) w.heap.size m E.length D0 w2 hlt hcell hown
  refine ((callsIn_wide (n := 5)).1 (sorted63 5 w2 w.heap.size _ _ (by rw [hsize]; unfold maxLen; omega) (by rw [hsize]; omega) hseq)).mono ?_
  rintro e w3 ⟨v, ss, rfl, hS, hrow, _, hb⟩
  obtain ⟨hsame, hfr⟩ := below_frm rfl hb
  have hsk : ss.Perm ks := (hS.trans hperm).trans hks
  rw [sorted_eq hsk hs, hsk.length_eq] at hrow
  refine ⟨v, rfl, hsame, hK v _ (ownsRow_strs hrow (fun x hx => by have := hD x hx; rw [← hw] at this; omega)) (f1.trans ?_)⟩
  rw [← hw2]
  exact hfr
end Go.Cps
namespace Go.Cps
open Go Go.Proofs
def linesOf (hs : List Hdr) : List (List UInt8 × List UInt8) := hs.flatMap fun p => p.2.map fun v => (p.1, v)
def headText (hs : List Hdr) : List UInt8 := linesText (linesOf hs) ++ [13, 10]
theorem linesText_append (a b : List (List UInt8 × List UInt8)) : linesText (a ++ b) = linesText a ++ linesText b := by simp [linesText]
def BW (HB : Heap) (X : List Nat) (b : Nat) (t : List UInt8) (H : Heap) : Prop := ∃ k, BufAt b k t H ∧ Frm X HB H ∧ (b ∈ X ∨ HB.size ≤ b) ∧ ∀ g, k = some g → g ∈ X ∨ HB.size ≤ g
theorem bwString_ok {HB H : Heap} {X : List Nat} {b : Nat} {t d : List UInt8} (h : BW HB X b t H) (hl : t.length + d.length < 2 ^ 40) : CallsH Tryz.prog 62 #[.pointer (some ⟨b, 0, none⟩), strVal d] H fun _ H' => BW HB X b (t ++ d) H' := by
  obtain ⟨k, h1, h2, h3, h4⟩ := h
  refine (bufWriteString_ok h1 hl).mono ?_
  rintro x H' ⟨_, k', hb, f, hk⟩
  refine ⟨k', hb, h2.up f (fun x hx => ?_), h3, fun g hg => ?_⟩
  · rcases List.mem_cons.1 hx with rfl | hx
    · exact h3
    · exact h4 x (by simpa using hx)
  · rcases hk with e | ⟨g', e, hge⟩
    · exact h4 g (by rw [← e, hg])
    · rw [hg] at e; cases e
      have := h2.size
      exact .inr (by omega)
theorem getE_of {P : List (List UInt8 × Value)} (hnd : (P.map (·.1)).Nodup) {e : List UInt8 × Value} (he : e ∈ P) : getE e.1 P = some e.2 := by
  induction P with
  | nil => cases he
  | cons x r ih =>
    rw [List.map_cons, List.nodup_cons] at hnd
    simp only [getE]
    rcases List.mem_cons.1 he with rfl | he
    · rw [if_pos rfl]
    · have hne : ¬ x.1 = e.1 := fun e2 => hnd.1 (List.mem_map.2 ⟨e, he, e2.symm⟩)
      rw [if_neg hne]
      exact ih hnd.2 he
abbrev GEnt := Hdr × Value
def GEnt.pair (g : GEnt) : List UInt8 × Value := (g.1.1, g.2)
structure EntsG (D : List Nat) (H : Heap) (m : Nat) (G : List GEnt) : Prop where
  map : MapAt H m (G.map GEnt.pair)
  md : m ∉ D ∧ m < H.size
  strs : ∀ g ∈ G, StrsV D H g.2 g.1.2
theorem EntsG.frm {D X : List Nat} {H H' : Heap} {m : Nat} {G : List GEnt} (h : EntsG D H m G) (f : Frm X H H') (hX : ∀ x ∈ X, x ∈ D ∨ H.size ≤ x) : EntsG D H' m G :=
  ⟨h.map.frm f (fun hm => by
    rcases hX m hm with h1 | h1
    · exact h.md.1 h1
    · have := h.md.2; omega), ⟨h.md.1, Nat.lt_of_lt_of_le h.md.2 f.size⟩, fun g hg => (h.strs g hg).frm Qy f hX⟩
theorem EntsG.apart {D X : List Nat} {H : Heap} {m : Nat} {G : List GEnt} (h : EntsG D H m G) (hX : ∀ x ∈ X, H.size ≤ x) : EntsG X H m G :=
  ⟨h.map, ⟨fun hm => by have := hX m hm; have := h.md.2; omega, h.md.2⟩, fun g hg => by
    rcases h.strs g hg with ⟨b, o, c, e, h1, h2, h3, h4⟩ | h0
    · exact .inl ⟨b, o, c, e, h1, fun hm => by have := hX b hm; omega, h3, h4⟩
    · exact .inr h0⟩
theorem Ents.toG {D : List Nat} {H : Heap} {m N : Nat} {E : List Ent} (h : Ents H m N E) (hD : ∀ x ∈ Ents.blks m E, x ∉ D) : EntsG D H m (E.map fun e => (e.hd, e.pair.2)) where
  map := by
    have := h.map
    rw [List.map_map]
    exact this
  md := ⟨hD m (by simp [Ents.blks]), h.lt m (by simp [Ents.blks])⟩
  strs := fun g hg => by
    obtain ⟨e, he, rfl⟩ := List.mem_map.1 hg
    have hb : e.b ∈ Ents.blks m E := by simp only [Ents.blks, List.mem_cons, List.mem_map]; exact .inr ⟨e, he, rfl⟩
    exact (h.strs e he).strsV (hD e.b hb)
theorem linesOf_append (a b : List Hdr) : linesOf (a ++ b) = linesOf a ++ linesOf b := by simp [linesOf]
theorem linesOf_cons (p : Hdr) (r : List Hdr) : linesOf (p :: r) = (p.2.map fun v => (p.1, v)) ++ linesOf r := rfl
theorem linesOf_at (hs : List Hdr) (i : Nat) (hi : i < hs.length) : linesOf hs = linesOf (hs.take i) ++ ((hs[i].2.map fun v => (hs[i].1, v)) ++ linesOf (hs.drop (i + 1))) := by
  have h1 : hs.take i ++ hs[i] :: hs.drop (i + 1) = hs := by rw [← List.drop_eq_getElem_cons hi, List.take_append_drop]
  have h2 := linesOf_append (hs.take i) (hs[i] :: hs.drop (i + 1))
  rw [h1, linesOf_cons] at h2
  exact h2
theorem lines_prefix (hs : List Hdr) (i j : Nat) (hi : i < hs.length) (hj : j < hs[i].2.length) :
    (linesText (linesOf (hs.take i)) ++ linesText ((hs[i].2.take j).map fun v => (hs[i].1, v))).length + (lineOf (hs[i].1, hs[i].2[j]) ++ [13, 10]).length ≤ (linesText (linesOf hs)).length := by
  have h2 : hs[i].2.take j ++ hs[i].2[j] :: hs[i].2.drop (j + 1) = hs[i].2 := by rw [← List.drop_eq_getElem_cons hj, List.take_append_drop]
  have h4 := congrArg (fun l => l.map fun v => (hs[i].1, v)) h2
  simp only [List.map_append, List.map_cons] at h4
  rw [linesOf_at hs i hi, ← h4]
  simp only [linesText_append, List.length_append]
  simp only [linesText, List.flatMap_cons, List.length_append]
  omega
theorem lines_succ (hs : List Hdr) (i : Nat) (hi : i < hs.length) : linesText (linesOf (hs.take (i + 1))) = linesText (linesOf (hs.take i)) ++ linesText (hs[i].2.map fun v => (hs[i].1, v)) := by
  rw [List.take_succ_eq_append_getElem hi, linesOf_append, linesText_append]
  simp [linesOf]
theorem keysLoop_ok {HB H : Heap} {X : List Nat} {b m : Nat} {G : List GEnt} {hs : List Hdr} {v : Value} {pre : List UInt8} {K : Heap → Prop} (hE : EntsG X HB m G) (hp : (G.map (·.1)).Perm hs) (hnd : (G.map (·.1.1)).Nodup) (hv : StrsV X HB v (hs.map (·.1))) (hb : BW HB X b pre H) (hn : hs.length < 2 ^ 30) (hN : ∀ g ∈ G, g.1.2.length < 2 ^ 40)
    (hl : pre.length + (linesText (linesOf hs)).length < 2 ^ 39) (hK : ∀ H', BW HB X b (pre ++ linesText (linesOf hs)) H' → K H') :
    Get (lenV v) fun x50 =>
    Loop [(.int .i64 0)] H fun K5 vs6 H =>
    Get (arithV .lss .i64 (nth vs6 0) x50) fun x52 =>
    Br x52 (
    Get (elemAddrV 1 v (nth vs6 0)) fun x53 =>
    Get (load1V x53 H) fun x54 =>
    ExecV Tryz.prog (Instr.lookup 106 (.map (some m)) x54 false) H fun x57 H =>
    Get (lenV x57) fun x58 =>
    Loop [(.int .i64 0)] H fun K7 vs8 H =>
    Get (arithV .lss .i64 (nth vs8 0) x58) fun x60 =>
    Br x60 (
    Get (elemAddrV 1 x57 (nth vs8 0)) fun x61 =>
    Get (load1V x61 H) fun x62 =>
    Get (strV .add x54 (.string ⟨#[58, 32]⟩)) fun x64 =>
    Get (strV .add x64 x62) fun x66 =>
    Get (strV .add x66 (.string ⟨#[13, 10]⟩)) fun x67 =>
    CallsH Tryz.prog 62 #[.pointer (some ⟨b, 0, none⟩), x67] H fun _ H =>
    Get (arithV .add .i64 (nth vs8 0) (.int .i64 1)) fun x69 =>
    K7 [x69] H) (
    Get (arithV .add .i64 (nth vs6 0) (.int .i64 1)) fun x70 =>
    K5 [x70] H)) (K H) := by
  have dd : ∀ a b : Nat, decide ((a : Int) < (b : Int)) = decide (a < b) := fun a b => by simp
  simp only [hv.len, Q6, List.length_map]
  have hfr : ∀ {t H1}, BW HB X b t H1 → EntsG X H1 m G ∧ StrsV X H1 v (hs.map (·.1)) := fun {t H1} h => by
    obtain ⟨_, _, f, _⟩ := h
    exact ⟨hE.frm f (fun x hx => .inl hx), hv.frm Qy f (fun x hx => .inl hx)⟩
  refine ⟨fun μ vs H1 => ∃ i : Nat, vs = [.int .i64 i] ∧ μ = hs.length - i ∧ i ≤ hs.length ∧ BW HB X b (pre ++ linesText (linesOf (hs.take i))) H1, ⟨_, 0, rfl, rfl, Nat.zero_le _, by simpa [linesOf, linesText] using hb⟩, ?_⟩
  rintro μ vs H1 ⟨i, rfl, rfl, hi, hb1⟩
  simp only [Q0, Q1, Q2, Q3, Q4, Q5, Q6, Q7, Q8, Q9, Qa, Qb, Qc, Qd, Qe, Qf, Qg, Qh, Qi, Qj, Qk, Ql, Qm, Qn, Qo, Qp, Qq, Qr, Qs, dd]
  refine Br_intro (fun hlt => ?_) (fun hlt => ?_)
  · have hlt' : i < hs.length := by simpa using hlt
    obtain ⟨hE1, hv1⟩ := hfr hb1
    obtain ⟨a, ha, hca⟩ := strs_elem hv1 (j := i) (by simpa using hlt')
    simp only [List.getElem_map] at hca
    simp only [ha, Q0, Q1, Q2, Q3, Q4, Q5, Q6, Q7, Q8, Q9, Qa, Qb, Qc, Qd, Qe, Qf, Qg, Qh, Qi, Qj, hca]
    have hmem : hs[i] ∈ G.map (·.1) := hp.mem_iff.2 (List.getElem_mem hlt')
    obtain ⟨⟨⟨ekey, evs⟩, ev⟩, he, hehd⟩ := List.mem_map.1 hmem
    simp only at hehd
    have hek : ekey = hs[i].1 := by rw [← hehd]
    have hev : evs = hs[i].2 := by rw [← hehd]
    have hfew : evs.length < 2 ^ 40 := hN _ he
    have hget : getE ekey (G.map GEnt.pair) = some ev := getE_of (P := G.map GEnt.pair) (by rw [List.map_map]; exact hnd) (e := (ekey, ev)) (List.mem_map.2 ⟨_, he, rfl⟩)
    have hsv1 : StrsV X H1 ev evs := hE1.strs _ he
    rw [← hek, lookup_of und106 hE1.map, hget]
    simp only [Option.getD_some, hsv1.len, Q0, Q1, Q2, Q3, Q4, Q5, Q6, Q7, Q8, Q9, Qa, Qb, Qc, Qd, Qe, Qf, Qg, Qh, Qi, Qj]
    refine ⟨fun ν vs H2 => ∃ j : Nat, vs = [.int .i64 j] ∧ ν = evs.length - j ∧ j ≤ evs.length ∧ BW HB X b (pre ++ linesText (linesOf (hs.take i)) ++ linesText ((evs.take j).map fun v => (ekey, v))) H2, ⟨_, 0, rfl, rfl, Nat.zero_le _, by simpa [linesText] using hb1⟩, ?_⟩
    clear hsv1 hE1 hca ha hv1 hb1
    rintro ν vs H2 ⟨j, rfl, rfl, hj, hb2⟩
    obtain ⟨hE2, hv2⟩ := hfr hb2
    have hsv2 : StrsV X H2 ev evs := hE2.strs _ he
    simp only [Q0, Q1, Q2, Q3, Q4, Q5, Q6, Q7, Q8, Q9, Qa, Qb, Qc, Qd, Qe, Qf, Qg, Qh, Qi, Qj, Qk, Ql, Qm, Qn, Qo, Qp, Qq, Qr, Qs, dd]
    refine Br_intro (fun hlt2 => ?_) (fun hlt2 => ?_)
    · have hlt2' : j < evs.length := by simpa using hlt2
      obtain ⟨a2, ha2, hca2⟩ := strs_elem hsv2 hlt2'
      have hpl := lines_prefix hs i j hlt' (by rw [← hev]; exact hlt2')
      simp only [List.length_append, lineOf, List.length_cons, List.length_nil] at hpl
      have hgv : evs[j] = hs[i].2[j]'(by rw [← hev]; exact hlt2') := by simp only [hev]
      have e1 : strV .add (strVal ekey) (.string ⟨#[58, 32]⟩) = some (strVal (ekey ++ [58, 32])) := strV_add (a := ekey) (b := [58, 32]) (by simp; rw [hek]; omega)
      have e2 : strV .add (strVal (ekey ++ [58, 32])) (strVal evs[j]) = some (strVal (ekey ++ [58, 32] ++ evs[j])) := strV_add (by simp; rw [hek, hgv]; omega)
      have e3 : strV .add (strVal (ekey ++ [58, 32] ++ evs[j])) (.string ⟨#[13, 10]⟩) = some (strVal (ekey ++ [58, 32] ++ evs[j] ++ [13, 10])) := strV_add (b := [13, 10]) (by simp; rw [hek, hgv]; omega)
      simp only [ha2, Q0, Q1, Q2, Q3, Q4, Q5, Q6, Q7, Q8, Q9, Qa, Qb, Qc, Qd, Qe, Qf, Qg, Qh, Qi, Qj, hca2, e1, e2, e3]
      have hlen : (pre ++ linesText (linesOf (hs.take i)) ++ linesText ((evs.take j).map fun v => (ekey, v))).length + (ekey ++ [58, 32] ++ evs[j] ++ [13, 10]).length < 2 ^ 40 := by
        simp only [List.length_append, List.length_cons, List.length_nil]
        rw [hgv]
        simp only [hek, hev]
        omega
      refine (bwString_ok hb2 hlen).mono ?_
      rintro x H3 hb3
      have e4 : IntKind.i64.wrap ((j : Int) + 1) = ((j + 1 : Nat) : Int) := by rw [wrap_i64 (by omega) (by omega)]; omega
      simp only [Qk, Ql, Qm, Qn, Qo, Qp, Qq, Qr, Qs, Q0, Q1, Q2, Q3, Q4, Q5, Q6, Q7, Q8, Q9, Qa, Qb, Qc, Qd, Qe, Qf, Qg, Qh, Qi, Qj, e4]
      refine ⟨_, by omega, j + 1, rfl, rfl, hlt2', ?_⟩
      have e5 : linesText ((evs.take (j + 1)).map fun v => (ekey, v)) = linesText ((evs.take j).map fun v => (ekey, v)) ++ (ekey ++ [58, 32] ++ evs[j] ++ [13, 10]) := by
        rw [List.take_succ_eq_append_getElem hlt2', List.map_append, linesText_append]
        simp [linesText, lineOf]
      rw [e5, ← List.append_assoc]
      exact hb3
    · have hjl : j = evs.length := by simp at hlt2; omega
      subst hjl
      rw [List.take_length] at hb2
      have e4 : IntKind.i64.wrap ((i : Int) + 1) = ((i + 1 : Nat) : Int) := by rw [wrap_i64 (by omega) (by omega)]; omega
      simp only [Qk, Ql, Qm, Qn, Qo, Qp, Qq, Qr, Qs, Q0, Q1, Q2, Q3, Q4, Q5, Q6, Q7, Q8, Q9, Qa, Qb, Qc, Qd, Qe, Qf, Qg, Qh, Qi, Qj, e4]
      refine ⟨_, by omega, i + 1, rfl, rfl, hlt', ?_⟩
      rw [lines_succ hs i hlt', ← List.append_assoc, ← hek, ← hev]
      exact hb2
  · have : i = hs.length := by simp at hlt; omega
    subst this
    rw [List.take_length] at hb1
    exact hK H1 hb1
end Go.Cps
namespace Go.Cps
open Go Go.Proofs
def delimText (last : Option Nat) (bd : List UInt8) : List UInt8 := match last with
  | none => [45, 45] ++ bd ++ [13, 10]
  | some _ => [13, 10, 45, 45] ++ bd ++ [13, 10]
theorem createPartG_ok {B ob wr m : Nat} {bd l : List UInt8} {k last : Option Nat} {H : Heap} {G : List GEnt} {D : List Nat} {hs : List Hdr} (h : WS B ob wr bd k last l H) (hB : B ≤ H.size) (hE : EntsG D H m G) (hEx : ∀ x ∈ WS.ids ob wr k last, x ∈ D) (hp : (G.map (·.1)).Perm hs) (hs' : (hs.map (·.1)).Pairwise (· < ·))
    (hkl : ∀ g ∈ G, g.1.1.length < 2 ^ 40) (hn : hs.length < 2 ^ 30) (hN : ∀ g ∈ G, g.1.2.length < 2 ^ 40) (hl : l.length + bd.length + (headText hs).length + 100 < 2 ^ 39) :
    CallsH Tryz.prog 32 #[.pointer (some ⟨wr, 0, none⟩), .map (some m)] H fun x H' => ∃ p k', x = .tuple #[.iface 103 (.pointer (some ⟨p, 0, none⟩)), .nilIface] ∧ WS B ob wr bd k' (some p) (l ++ (delimText last bd ++ headText hs)) H' ∧ Frm (WS.ids ob wr k last) H H' ∧ H.size ≤ p ∧ (k' = k ∨ ∃ g, k' = some g ∧ H.size ≤ g) := by
  obtain ⟨n1, n2, n3, n4⟩ := h.ne
  have hlt := h.lt
  have hkeys : ((G.map GEnt.pair).map (·.1)).Perm (hs.map (·.1)) := by
    have := hp.map (·.1)
    rw [List.map_map] at this ⊢
    exact this
  have hnd0 : ((G.map GEnt.pair).map (·.1)).Nodup := hkeys.symm.nodup (hs'.imp fun h e => by rw [e] at h; exact List.lt_irrefl _ h)
  have hnd : (G.map (·.1.1)).Nodup := by rw [List.map_map] at hnd0; exact hnd0
  have hEn : (G.map GEnt.pair).length < 2 ^ 30 := by have := hp.length_eq; simp at this ⊢; omega
  have hkl' : ∀ e ∈ G.map GEnt.pair, e.1.length < 2 ^ 40 := fun e he => by
    obtain ⟨g, hg, rfl⟩ := List.mem_map.1 he
    exact hkl g hg
  have hhl : (headText hs).length = (linesText (linesOf hs)).length + 2 := by simp [headText]
  apply s32
  unfold c32
  refine ⟨fun _ H1 => BufAt ob k l H1 ∧ WrAt wr (.iface 58 (.pointer (some ⟨ob, 0, none⟩))) bd (lastP last) H1 ∧ Frm last.toList H H1 ∧ H1.size = H.size, ?_, ?_⟩
  · cases last with
    | none =>
      simp only [Q0, Q1, Q2, Q3, Q4, Q5, Q6, Q7, Q8, Q9, Qa, Qb, Qc, Qd, Qe, Qf, Qg, Qh, Qi, Qj, cellH_of h.wr_, lastP, Option.map_none, nilV2_neq_ptr, Option.isNone_none, Bool.not_true]
      exact ⟨h.buf, h.wr_, Frm.refl _ _, trivial⟩
    | some p =>
      simp only [Q0, Q1, Q2, Q3, Q4, Q5, Q6, Q7, Q8, Q9, Qa, Qb, Qc, Qd, Qe, Qf, Qg, Qh, Qi, Qj, cellH_of h.wr_, lastP, Option.map_some, nilV2_neq_ptr, Option.isNone_some, Bool.not_false]
      refine (closePart_ok h).mono ?_
      rintro x H1 ⟨rfl, hb1, hw1, f1, z1⟩
      simp only [nilV2_neq_nil, Q0, Q1, Q2, Q3, Q4, Q5, Q6, Q7, Q8, Q9, Qa, Qb, Qc, Qd, Qe, Qf, Qg, Qh, Qi, Qj]
      exact ⟨hb1, hw1, f1.mono (by simp), z1⟩
  rintro _ H1 ⟨hb1, hw1, f1, z1⟩
  simp only [New]
  have hp2 := push_same H1 (.cells #[(.slice none 0 0), (.int .i64 0), (.int .i8 0)] 55 (0, 0))
  have f2 : Frm [] H1 (H1.push (.cells #[(.slice none 0 0), (.int .i64 0), (.int .i8 0)] 55 (0, 0))) := Frm.push _ _ _
  have z2 : (H1.push (.cells #[(.slice none 0 0), (.int .i64 0), (.int .i8 0)] 55 (0, 0))).size = H1.size + 1 := by simp
  generalize H1.push (.cells #[(.slice none 0 0), (.int .i64 0), (.int .i8 0)] 55 (0, 0)) = H2 at *
  have hbuf2 : BufAt H1.size none [] H2 := ⟨_, _, hp2, rfl, rfl⟩
  have hob1 := hb1.lt
  have hwrl := lt_of_some hw1
  refine ⟨fun _ H3 => ∃ kb, BufAt H1.size kb (delimText last bd) H3 ∧ Frm [H1.size] H2 H3 ∧ ∀ g, kb = some g → H2.size ≤ g, ?_, ?_⟩
  · have hw2 : H2[wr]? = _ := f2.get hw1 (by simp)
    cases last with
    | none =>
      have e1 : strV .add (.string ⟨#[45, 45]⟩) (strVal bd) = some (strVal ([45, 45] ++ bd)) := strV_add (a := [45, 45]) (b := bd) (by simp; omega)
      have e2 : strV .add (strVal ([45, 45] ++ bd)) (.string ⟨#[13, 10]⟩) = some (strVal ([45, 45] ++ bd ++ [13, 10])) := strV_add (b := [13, 10]) (by simp; omega)
      simp only [Q0, Q1, Q2, Q3, Q4, Q5, Q6, Q7, Q8, Q9, Qa, Qb, Qc, Qd, Qe, Qf, Qg, Qh, Qi, Qj, cellH_of hw2, lastP, Option.map_none, nilV2_neq_ptr, Option.isNone_none, Bool.not_true, e1, e2]
      refine (bufWriteString_ok hbuf2 (by simp; omega)).mono ?_
      rintro x H3 ⟨_, kb, hb3, f3, hkb⟩
      refine ⟨kb, by simpa [delimText] using hb3, f3.mono (by simp), fun g hg => ?_⟩
      rcases hkb with e | ⟨g', e, hge⟩
      · rw [e] at hg; cases hg
      · rw [hg] at e; cases e; exact hge
    | some p =>
      have e1 : strV .add (.string ⟨#[13, 10, 45, 45]⟩) (strVal bd) = some (strVal ([13, 10, 45, 45] ++ bd)) := strV_add (a := [13, 10, 45, 45]) (b := bd) (by simp; omega)
      have e2 : strV .add (strVal ([13, 10, 45, 45] ++ bd)) (.string ⟨#[13, 10]⟩) = some (strVal ([13, 10, 45, 45] ++ bd ++ [13, 10])) := strV_add (b := [13, 10]) (by simp; omega)
      simp only [Q0, Q1, Q2, Q3, Q4, Q5, Q6, Q7, Q8, Q9, Qa, Qb, Qc, Qd, Qe, Qf, Qg, Qh, Qi, Qj, cellH_of hw2, lastP, Option.map_some, nilV2_neq_ptr, Option.isNone_some, Bool.not_false, e1, e2]
      refine (bufWriteString_ok hbuf2 (by simp; omega)).mono ?_
      rintro x H3 ⟨_, kb, hb3, f3, hkb⟩
      refine ⟨kb, by simpa [delimText] using hb3, f3.mono (by simp), fun g hg => ?_⟩
      rcases hkb with e | ⟨g', e, hge⟩
      · rw [e] at hg; cases hg
      · rw [hg] at e; cases e; exact hge
  rintro _ H3 ⟨kb, hb3, f3, hkb⟩
  have f13 : Frm [] H1 H3 := f2.up f3 (fun x hx => by rw [List.mem_singleton] at hx; subst hx; exact .inr (Nat.le_refl _))
  have hE0 : EntsG D H1 m G := hE.frm f1 (fun x hm => .inl (hEx x (by simp only [WS.ids, List.mem_cons, List.mem_append]; exact .inr (.inr (.inl hm)))))
  have hE1 : EntsG (H1.size :: kb.toList) H1 m G := hE0.apart (fun x hx => by
    rcases List.mem_cons.1 hx with rfl | hx
    · exact Nat.le_refl _
    · have := hkb x (by simpa using hx); omega)
  have hE3 := hE1.frm f13 (by simp)
  have hblt3 := hb3.lt
  have hXlt : ∀ x ∈ H1.size :: kb.toList, x < H3.size := fun x hx => by
    rcases List.mem_cons.1 hx with rfl | hx
    · exact hblt3.1
    · exact (hblt3.2 x (by simpa using hx)).1
  refine keysSorted_ok (D := H1.size :: kb.toList) hE3.map hkeys hs' hkl' hEn hXlt fun v H4 hv4 f4 => ?_
  have hE4 := hE3.frm f4 (by simp)
  have hb4 : BW H4 (H1.size :: kb.toList) H1.size (delimText last bd) H4 := ⟨kb, hb3.frm f4 (by simp) (by simp), Frm.refl _ _, .inl (by simp), fun g hg => .inl (by simp [hg])⟩
  have hdl : (delimText last bd).length ≤ bd.length + 10 := by cases last <;> simp [delimText]
  refine keysLoop_ok hE4 hp hnd hv4 hb4 hn hN (by omega) fun H5 hb5 => ?_
  refine (bwString_ok (d := [13, 10]) hb5 (by simp; omega)).mono ?_
  rintro x H6 ⟨k6, hb6, f6, _, hk6⟩
  have f16 : Frm [] H1 H6 := (f13.trans f4).up f6 (fun x hx => by
    rcases List.mem_cons.1 hx with e | e
    · exact .inr (by omega)
    · exact .inr (by have := hkb x (by simpa using e); omega))
  have hw6 : H6[wr]? = _ := f16.get hw1 (by simp)
  have hob6 := hb1.frm f16 (by simp) (by simp)
  have hk6' : ∀ g, k6 = some g → H1.size < g := fun g hg => by
    have h1 := (hb6.lt.2 g hg).2
    have h3 := f13.size
    have h4 := f4.size
    rcases hk6 g hg with e | e
    · rcases List.mem_cons.1 e with e | e
      · exact absurd e h1
      · have := hkb g (by simpa using e); omega
    · omega
  have htxt : delimText last bd ++ linesText (linesOf hs) ++ [13, 10] = delimText last bd ++ headText hs := by simp [headText]
  rw [htxt] at hb6
  simp only [Q0, Q1, Q2, Q3, Q4, Q5, Q6, Q7, Q8, Q9, Qa, Qb, Qc, Qd, Qe, Qf, Qg, Qh, Qi, Qj, cellH_of hw6]
  refine (ioCopy_ok hb6 hob6 (by omega) (fun e => by have := (hob1.2 _ e).1; omega) (fun e => by have := hk6' _ e; omega) (fun g hg e => by have := hk6' g hg; have := (hob1.2 g e).1; omega) (by cases last <;> simp [delimText]) (by simp; omega)).mono ?_
  rintro x H7 ⟨rfl, k', hb7, f7, hk7⟩
  have e3 : fillV #[(0, 1), (1, 1), (2, 1)] #[(.pointer none), (.bool false), .nilIface] [(0, .pointer (some ⟨wr, 0, none⟩))] = some #[.pointer (some ⟨wr, 0, none⟩), .bool false, .nilIface] := by
    rw [fillV_cons rfl rfl (by simp), fillV_nil]; rfl
  simp only [Q0, Q1, Q2, Q3, Q4, Q5, Q6, Q7, Q8, Q9, Qa, Qb, Qc, Qd, Qe, Qf, Qg, Qh, Qi, Qj, nilV2_neq_nil, e3, Option.map_some, Value.cells]
  have hw7 : H7[wr]? = _ := f7.get hw6 (fun hm => by
    rcases List.mem_cons.1 hm with e | e
    · omega
    · rcases List.mem_cons.1 e with e | e
      · exact n1 e.symm
      · exact n3 (by simpa using e))
  have hp8 := push_same H7 (.cells #[.pointer (some ⟨wr, 0, none⟩), .bool false, .nilIface] 115 (0, 0))
  have f8 : Frm [] H7 (H7.push (.cells #[.pointer (some ⟨wr, 0, none⟩), .bool false, .nilIface] 115 (0, 0))) := Frm.push _ _ _
  have z8 : (H7.push (.cells #[.pointer (some ⟨wr, 0, none⟩), .bool false, .nilIface] 115 (0, 0))).size = H7.size + 1 := by simp
  generalize H7.push (.cells #[.pointer (some ⟨wr, 0, none⟩), .bool false, .nilIface] 115 (0, 0)) = H8 at *
  have hw8 : H8[wr]? = _ := f8.get hw7 (by simp)
  refine Store_of hw8 (by simp) rfl fun H9 hw9 f9 z9 => ?_
  simp only [Qt, Qu, Qv] at hw9
  have hwr7 := lt_of_some hw7
  have hob7 := hb7.lt
  have hsz16 := f16.size
  have hsz7 := f7.size
  refine ⟨H7.size, k', rfl, ?_, ?_, by omega, ?_⟩
  rotate_right
  · rcases hk7 with e | ⟨g, e, hge⟩
    · exact .inl e
    · exact .inr ⟨g, e, by omega⟩
  · refine { buf := (hb7.frm f8 (by simp) (by simp)).frm f9 (by simpa using n1) (fun g hg => ?_), wr_ := hw9, pt := fun p hp => ?_, low := ⟨h.low.1, h.low.2.1, fun p hp => ?_, fun g hg => ?_⟩, ne := ⟨n1, fun p hp => ?_, ?_, fun e => (hob7.2 _ e).2 rfl⟩ }
    · rw [List.mem_singleton]
      rintro rfl
      rcases hk7 with e | ⟨g', e, hge⟩
      · exact n3 (by rw [← e, hg])
      · rw [hg] at e; cases e; omega
    · cases hp
      exact f9.get hp8 (by rw [List.mem_singleton]; omega)
    · cases hp; omega
    · rcases hk7 with e | ⟨g', e, hge⟩
      · exact h.low.2.2.2 g (by rw [← e, hg])
      · rw [hg] at e; cases e; omega
    · cases hp
      exact ⟨by omega, by omega, fun e => by have := (hob7.2 _ e).1; omega⟩
    · intro e2
      rcases hk7 with e | ⟨g', e, hge⟩
      · exact n3 (by rw [← e, e2])
      · rw [e2] at e; cases e; omega
  · have g1 : Frm (WS.ids ob wr k last) H H1 := f1.mono (fun x hx => by simp only [WS.ids, List.mem_cons, List.mem_append]; exact .inr (.inr (.inl hx)))
    refine (((g1.trans (f16.mono (by simp))).up f7 (fun x hx => ?_)).trans (f8.mono (by simp))).trans (f9.mono (by simp [WS.ids]))
    rcases List.mem_cons.1 hx with rfl | hx
    · exact .inr (by omega)
    · rcases List.mem_cons.1 hx with rfl | hx
      · exact .inl (by simp [WS.ids])
      · exact .inl (by simp only [WS.ids, List.mem_cons, List.mem_append]; exact .inr (.inr (.inr hx)))
theorem createPart_ok {B ob wr m N : Nat} {bd l : List UInt8} {k last : Option Nat} {H : Heap} {E : List Ent} {hs : List Hdr} (h : WS B ob wr bd k last l H) (hB : B ≤ H.size) (hE : Ents H m N E) (hEx : ∀ x ∈ Ents.blks m E, x ∉ WS.ids ob wr k last) (hp : (E.map Ent.hd).Perm hs) (hs' : (hs.map (·.1)).Pairwise (· < ·))
    (hkl : ∀ e ∈ E, e.key.length < 2 ^ 40) (hn : hs.length < 2 ^ 30) (hN : N < 2 ^ 40) (hl : l.length + bd.length + (headText hs).length + 100 < 2 ^ 38) :
    CallsH Tryz.prog 32 #[.pointer (some ⟨wr, 0, none⟩), .map (some m)] H fun x H' => ∃ p k', x = .tuple #[.iface 103 (.pointer (some ⟨p, 0, none⟩)), .nilIface] ∧ WS B ob wr bd k' (some p) (l ++ (delimText last bd ++ headText hs)) H' ∧ Frm (WS.ids ob wr k last) H H' ∧ H.size ≤ p ∧ (k' = k ∨ ∃ g, k' = some g ∧ H.size ≤ g) := by
  refine createPartG_ok (D := WS.ids ob wr k last) (G := E.map fun e => (e.hd, e.pair.2)) h hB (hE.toG hEx) (fun x hx => hx) (by rw [List.map_map]; exact hp) hs' (fun g hg => ?_) hn (fun g hg => ?_) (by omega)
  · obtain ⟨e, he, rfl⟩ := List.mem_map.1 hg
    exact hkl e he
  · obtain ⟨e, he, rfl⟩ := List.mem_map.1 hg
    exact Nat.lt_of_le_of_lt (hE.few e he) hN
end Go.Cps
namespace Go.Cps
open Go Go.Proofs
theorem canon1_up {c : UInt8} (h : canon1 true c = c) : ¬ (97 ≤ c.toNat ∧ c.toNat ≤ 122) := by
  intro hc
  have h1 := canon1_eq true c
  rw [h] at h1
  unfold canonI at h1
  have : decide ((97 : Int) ≤ (c.toNat : Int)) = true := by simp; omega
  have h3 : decide ((c.toNat : Int) ≤ 122) = true := by simp; omega
  rw [this, h3] at h1
  simp at h1
  omega
theorem canon1_low {c : UInt8} (h : canon1 false c = c) : ¬ (65 ≤ c.toNat ∧ c.toNat ≤ 90) := by
  intro hc
  have h1 := canon1_eq false c
  rw [h] at h1
  unfold canonI at h1
  have : decide ((65 : Int) ≤ (c.toNat : Int)) = true := by simp; omega
  have h3 : decide ((c.toNat : Int) ≤ 90) = true := by simp; omega
  rw [this, h3] at h1
  simp at h1
  omega
theorem canonId_ok {k : List UInt8} {H : Heap} (hl : k.length < 2 ^ 40) (ht : ∀ b ∈ k, tok b.toNat = true) (hc : canonG true k = k) : CallsH Tryz.prog 98 #[strVal k] H fun x H' => x = strVal k ∧ H' = H := by
  apply s98
  unfold c98
  refine ⟨fun μ vs H' => ∃ (i : Nat) (up : Bool), vs = [strVal k, .bool up, .int .i64 i] ∧ μ = k.length - i ∧ i ≤ k.length ∧ H' = H ∧ canonG up (k.drop i) = k.drop i, ⟨_, 0, true, rfl, rfl, Nat.zero_le _, rfl, by simpa using hc⟩, ?_⟩
  rintro μ vs H ⟨i, up, rfl, rfl, hi, rfl, hd⟩
  simp only [Q0, Q1, Q2, Q3, Q4, Q5, Q6, Q7, Q8, Q9, Qa, Qb, Qc, Qd, Qe, Qf, Qg, Qh, Qi, Qj, lenStr_of, Qk, Ql, Qm, Qn, Qo, Qp, Qq, Qr, Qs, dec_lt]
  refine Br_intro (fun hlt => ?_) (fun hlt => ⟨trivial, trivial⟩)
  have hlt' : i < k.length := by simpa using hlt
  simp only [strIndex_of hlt', Q0, Q1, Q2, Q3, Q4, Q5, Q6, Q7, Q8, Q9, Qa, Qb, Qc, Qd, Qe, Qf, Qg, Qh, Qi, Qj]
  refine fieldByte_ok.mono ?_
  rintro x H ⟨rfl, rfl⟩
  rw [List.drop_eq_getElem_cons hlt'] at hd
  simp only [canonG, List.cons.injEq] at hd
  obtain ⟨hd1, hd2⟩ := hd
  have httok := ht _ (List.getElem_mem hlt')
  simp only [httok, Q0, Q1, Q2, Q3, Q4, Q5, Q6, Q7, Q8, Q9, Qa, Qb, Qc, Qd, Qe, Qf, Qg, Qh, Qi, Qj, Bool.not_true]
  have e45 : (((k[i].toNat : Nat) : Int) == 45) = (k[i] == 45) := byte_beq k[i] 45
  have dle : ∀ a b : Nat, decide ((a : Int) ≤ (b : Int)) = decide (a ≤ b) := fun a b => by simp
  refine ⟨fun vs H' => vs = [.bool false] ∧ H' = H, ?_, ?_⟩
  · cases up with
    | true =>
      have h1 := canon1_up hd1
      simp only [Q0, Q1, Q2, Q3, Q4, Q5, Q6, Q7, Q8, Q9, Qa, Qb, Qc, Qd, Qe, Qf, Qg, Qh, Qi, Qj, byteV, Qk, Ql, Qm, Qn, Qo, Qp, Qq, Qr, Qs]
      refine Br_intro (fun h2 => ?_) (fun h2 => ?_)
      · have h2' : 97 ≤ k[i].toNat := by simp at h2; omega
        have h3 : decide (((k[i].toNat : Nat) : Int) ≤ 122) = false := by simp; omega
        simp only [Q0, Q1, Q2, Q3, Q4, Q5, Q6, Q7, Q8, Q9, Qa, Qb, Qc, Qd, Qe, Qf, Qg, Qh, Qi, Qj, Qk, Ql, Qm, Qn, Qo, Qp, Qq, Qr, Qs, h3, h2, if_true, and_self]
      · simp only [Q0, Q1, Q2, Q3, Q4, Q5, Q6, Q7, Q8, Q9, Qa, Qb, Qc, Qd, Qe, Qf, Qg, Qh, Qi, Qj, Bool.false_eq_true, if_false, and_self]
    | false => simp only [Q0, Q1, Q2, Q3, Q4, Q5, Q6, Q7, Q8, Q9, Qa, Qb, Qc, Qd, Qe, Qf, Qg, Qh, Qi, Qj, Bool.false_eq_true, if_false, and_self]
  rintro _ H ⟨rfl, rfl⟩
  simp only [Q0, Q1, Q2, Q3, Q4, Q5, Q6, Q7, Q8, Q9, Qa, Qb, Qc, Qd, Qe, Qf, Qg, Qh, Qi, Qj]
  refine ⟨fun vs H' => vs = [.bool false] ∧ H' = H, ?_, ?_⟩
  · cases up with
    | false =>
      have h1 := canon1_low hd1
      simp only [Q0, Q1, Q2, Q3, Q4, Q5, Q6, Q7, Q8, Q9, Qa, Qb, Qc, Qd, Qe, Qf, Qg, Qh, Qi, Qj, byteV, Qk, Ql, Qm, Qn, Qo, Qp, Qq, Qr, Qs, Bool.not_false]
      refine Br_intro (fun h2 => ?_) (fun h2 => ?_)
      · have h2' : 65 ≤ k[i].toNat := by simp at h2; omega
        have h3 : decide (((k[i].toNat : Nat) : Int) ≤ 90) = false := by simp; omega
        simp only [Q0, Q1, Q2, Q3, Q4, Q5, Q6, Q7, Q8, Q9, Qa, Qb, Qc, Qd, Qe, Qf, Qg, Qh, Qi, Qj, Qk, Ql, Qm, Qn, Qo, Qp, Qq, Qr, Qs, h3, h2, if_true, and_self]
      · simp only [Q0, Q1, Q2, Q3, Q4, Q5, Q6, Q7, Q8, Q9, Qa, Qb, Qc, Qd, Qe, Qf, Qg, Qh, Qi, Qj, Bool.false_eq_true, if_false, and_self]
    | true => simp only [Q0, Q1, Q2, Q3, Q4, Q5, Q6, Q7, Q8, Q9, Qa, Qb, Qc, Qd, Qe, Qf, Qg, Qh, Qi, Qj, Bool.not_true, Bool.false_eq_true, if_false, and_self]
  rintro _ H ⟨rfl, rfl⟩
  simp only [Q0, Q1, Q2, Q3, Q4, Q5, Q6, Q7, Q8, Q9, Qa, Qb, Qc, Qd, Qe, Qf, Qg, Qh, Qi, Qj, byteV, Qk, Ql, Qm, Qn, Qo, Qp, Qq, Qr, Qs, e45, inc_i64 (show i < 2 ^ 62 by omega)]
  refine ⟨_, by omega, i + 1, (k[i] == 45), rfl, rfl, hlt', trivial, ?_⟩
  rw [hd1] at hd2
  exact hd2
end Go.Cps
