/-
  A part of the proof (its texts: L59, L70, L71, L53, L47, L60): each text says below what it proves.
  Conditions: each contract's own.
-/
import Derived.Shelf.SlSortCmp.NoneTotal
import Derived.Sort.Walk0
import Derived.WalkKit
import Derived.Test.YtfajmapajpfocaaGreatDoorE8
import Derived.Test.YtfajmapajpfocaaGreatDoorE19
import Derived.Test.YtfajmapajpfocaaGreatDoorE22
import Derived.Test.YtfajmapajpfocaaGreatDoorE23
import Derived.Test.YtfajmapajpfocaaGreatDoorE24
set_option linter.all false
/-
  CreatePart of a Writer.
  Conditions: the keys of the map are different; all is short.
-/
namespace Go.Cps
open Go Go.Proofs

def delimText (last : Option Nat) (bd : List UInt8) : List UInt8 := match last with
  | none => [45, 45] ++ bd ++ [13, 10]
  | some _ => [13, 10, 45, 45] ++ bd ++ [13, 10]

theorem createPartG_ok {B ob wr m : Nat} {bd l : List UInt8} {k last : Option Nat} {H : Heap} {G : List GEnt} {D : List Nat} {hs : List Hdr} (h : WS B ob wr bd k last l H) (hB : B ≤ H.size) (hE : EntsG D H m G) (hEx : ∀ x ∈ WS.ids ob wr k last, x ∈ D) (hp : (G.map (·.1)).Perm hs) (hs' : (hs.map (·.1)).Pairwise (· < ·))
    (hkl : ∀ g ∈ G, g.1.1.length < 2 ^ 40) (hn : hs.length < 2 ^ 30) (hN : ∀ g ∈ G, g.1.2.length < 2 ^ 40) (hl : l.length + bd.length + (headText hs).length + 100 < 2 ^ 39) :
    CallsH Tryz.prog 32 #[.pointer (some ⟨wr, 0, none⟩), .map (some m)] H fun x H' => ∃ p k', x = .tuple #[.iface 103 (.pointer (some ⟨p, 0, none⟩)), .nilIface] ∧ WS B ob wr bd k' (some p) (l ++ (delimText last bd ++ headText hs)) H' ∧ Frm (WS.ids ob wr k last) H H' ∧ H.size ≤ p ∧ (k' = k ∨ ∃ g, k' = some g ∧ H.size ≤ g) := by
  obtain ⟨n1, n2, n3, n4⟩ := h.ne
  have hlt := h.lt
  have hkeys : ((G.map GEnt.pair).map (·.1)).Perm (hs.map (·.1)) := by
    have := hp.map (·.1)
    rw [List.map_map] at this ⊢
    exact this
  have hnd0 : ((G.map GEnt.pair).map (·.1)).Nodup := hkeys.symm.nodup (hs'.imp fun h e => by rw [e] at h; exact List.lt_irrefl _ h)
  have hnd : (G.map (·.1.1)).Nodup := by rw [List.map_map] at hnd0; exact hnd0
  have hEn : (G.map GEnt.pair).length < 2 ^ 30 := by have := hp.length_eq; simp at this ⊢; omega
  have hkl' : ∀ e ∈ G.map GEnt.pair, e.1.length < 2 ^ 40 := fun e he => by
    obtain ⟨g, hg, rfl⟩ := List.mem_map.1 he
    exact hkl g hg
  have hhl : (headText hs).length = (linesText (linesOf hs)).length + 2 := by simp [headText]
  apply s32
  unfold c32
  refine ⟨fun _ H1 => BufAt ob k l H1 ∧ WrAt wr (.iface 58 (.pointer (some ⟨ob, 0, none⟩))) bd (lastP last) H1 ∧ Frm last.toList H H1 ∧ H1.size = H.size, ?_, ?_⟩
  · cases last with
    | none =>
      simp only [Fld_ptr, add_mk, Nat.zero_add, List.getElem?_toArray, List.getElem?_cons_succ, List.getElem?_cons_zero, Get_some, Br_true, Br_false, nth_zero, nth_one, nth_two, extractV_tuple, fieldAddrV_ptr, nilV_ptr, load1V_ptr, pickV_bool, unV_not, lenV_slice, capV_slice, cellH_of h.wr_, lastP, Option.map_none, nilV2_neq_ptr, Option.isNone_none, Bool.not_true]
      exact ⟨h.buf, h.wr_, Frm.refl _ _, trivial⟩
    | some p =>
      simp only [Fld_ptr, add_mk, Nat.zero_add, List.getElem?_toArray, List.getElem?_cons_succ, List.getElem?_cons_zero, Get_some, Br_true, Br_false, nth_zero, nth_one, nth_two, extractV_tuple, fieldAddrV_ptr, nilV_ptr, load1V_ptr, pickV_bool, unV_not, lenV_slice, capV_slice, cellH_of h.wr_, lastP, Option.map_some, nilV2_neq_ptr, Option.isNone_some, Bool.not_false]
      refine (closePart_ok h).mono ?_
      rintro x H1 ⟨rfl, hb1, hw1, f1, z1⟩
      simp only [nilV2_neq_nil, Fld_ptr, add_mk, Nat.zero_add, List.getElem?_toArray, List.getElem?_cons_succ, List.getElem?_cons_zero, Get_some, Br_true, Br_false, nth_zero, nth_one, nth_two, extractV_tuple, fieldAddrV_ptr, nilV_ptr, load1V_ptr, pickV_bool, unV_not, lenV_slice, capV_slice]
      exact ⟨hb1, hw1, f1.mono (by simp), z1⟩
  rintro _ H1 ⟨hb1, hw1, f1, z1⟩
  simp only [New]
  have hp2 := push_same H1 (.cells #[(.slice none 0 0), (.int .i64 0), (.int .i8 0)] 55 (0, 0))
  have f2 : Frm [] H1 (H1.push (.cells #[(.slice none 0 0), (.int .i64 0), (.int .i8 0)] 55 (0, 0))) := Frm.push _ _ _
  have z2 : (H1.push (.cells #[(.slice none 0 0), (.int .i64 0), (.int .i8 0)] 55 (0, 0))).size = H1.size + 1 := by simp
  generalize H1.push (.cells #[(.slice none 0 0), (.int .i64 0), (.int .i8 0)] 55 (0, 0)) = H2 at *
  have hbuf2 : BufAt H1.size none [] H2 := ⟨_, _, hp2, rfl, rfl⟩
  have hob1 := hb1.lt
  have hwrl := lt_of_some hw1
  refine ⟨fun _ H3 => ∃ kb, BufAt H1.size kb (delimText last bd) H3 ∧ Frm [H1.size] H2 H3 ∧ ∀ g, kb = some g → H2.size ≤ g, ?_, ?_⟩
  · have hw2 : H2[wr]? = _ := f2.get hw1 (by simp)
    cases last with
    | none =>
      have e1 : strV .add (.string ⟨#[45, 45]⟩) (strVal bd) = some (strVal ([45, 45] ++ bd)) := strV_add (a := [45, 45]) (b := bd) (by simp; omega)
      have e2 : strV .add (strVal ([45, 45] ++ bd)) (.string ⟨#[13, 10]⟩) = some (strVal ([45, 45] ++ bd ++ [13, 10])) := strV_add (b := [13, 10]) (by simp; omega)
      simp only [Fld_ptr, add_mk, Nat.zero_add, List.getElem?_toArray, List.getElem?_cons_succ, List.getElem?_cons_zero, Get_some, Br_true, Br_false, nth_zero, nth_one, nth_two, extractV_tuple, fieldAddrV_ptr, nilV_ptr, load1V_ptr, pickV_bool, unV_not, lenV_slice, capV_slice, cellH_of hw2, lastP, Option.map_none, nilV2_neq_ptr, Option.isNone_none, Bool.not_true, e1, e2]
      refine (bufWriteString_ok hbuf2 (by simp; omega)).mono ?_
      rintro x H3 ⟨_, kb, hb3, f3, hkb⟩
      refine ⟨kb, by simpa [delimText] using hb3, f3.mono (by simp), fun g hg => ?_⟩
      rcases hkb with e | ⟨g', e, hge⟩
      · rw [e] at hg; cases hg
      · rw [hg] at e; cases e; exact hge
    | some p =>
      have e1 : strV .add (.string ⟨#[13, 10, 45, 45]⟩) (strVal bd) = some (strVal ([13, 10, 45, 45] ++ bd)) := strV_add (a := [13, 10, 45, 45]) (b := bd) (by simp; omega)
      have e2 : strV .add (strVal ([13, 10, 45, 45] ++ bd)) (.string ⟨#[13, 10]⟩) = some (strVal ([13, 10, 45, 45] ++ bd ++ [13, 10])) := strV_add (b := [13, 10]) (by simp; omega)
      simp only [Fld_ptr, add_mk, Nat.zero_add, List.getElem?_toArray, List.getElem?_cons_succ, List.getElem?_cons_zero, Get_some, Br_true, Br_false, nth_zero, nth_one, nth_two, extractV_tuple, fieldAddrV_ptr, nilV_ptr, load1V_ptr, pickV_bool, unV_not, lenV_slice, capV_slice, cellH_of hw2, lastP, Option.map_some, nilV2_neq_ptr, Option.isNone_some, Bool.not_false, e1, e2]
      refine (bufWriteString_ok hbuf2 (by simp; omega)).mono ?_
      rintro x H3 ⟨_, kb, hb3, f3, hkb⟩
      refine ⟨kb, by simpa [delimText] using hb3, f3.mono (by simp), fun g hg => ?_⟩
      rcases hkb with e | ⟨g', e, hge⟩
      · rw [e] at hg; cases hg
      · rw [hg] at e; cases e; exact hge
  rintro _ H3 ⟨kb, hb3, f3, hkb⟩
  have f13 : Frm [] H1 H3 := f2.up f3 (fun x hx => by rw [List.mem_singleton] at hx; subst hx; exact .inr (Nat.le_refl _))
  have hE0 : EntsG D H1 m G := hE.frm f1 (fun x hm => .inl (hEx x (by simp only [WS.ids, List.mem_cons, List.mem_append]; exact .inr (.inr (.inl hm)))))
  have hE1 : EntsG (H1.size :: kb.toList) H1 m G := hE0.apart (fun x hx => by
    rcases List.mem_cons.1 hx with rfl | hx
    · exact Nat.le_refl _
    · have := hkb x (by simpa using hx); omega)
  have hE3 := hE1.frm f13 (by simp)
  have hblt3 := hb3.lt
  have hXlt : ∀ x ∈ H1.size :: kb.toList, x < H3.size := fun x hx => by
    rcases List.mem_cons.1 hx with rfl | hx
    · exact hblt3.1
    · exact (hblt3.2 x (by simpa using hx)).1
  refine keysSorted_ok (D := H1.size :: kb.toList) hE3.map hkeys hs' hkl' hEn hXlt fun v H4 hv4 f4 => ?_
  have hE4 := hE3.frm f4 (by simp)
  have hb4 : BW H4 (H1.size :: kb.toList) H1.size (delimText last bd) H4 := ⟨kb, hb3.frm f4 (by simp) (by simp), Frm.refl _ _, .inl (by simp), fun g hg => .inl (by simp [hg])⟩
  have hdl : (delimText last bd).length ≤ bd.length + 10 := by cases last <;> simp [delimText]
  refine keysLoop_ok hE4 hp hnd hv4 hb4 hn hN (by omega) fun H5 hb5 => ?_
  refine (bwString_ok (d := [13, 10]) hb5 (by simp; omega)).mono ?_
  rintro x H6 ⟨k6, hb6, f6, _, hk6⟩
  have f16 : Frm [] H1 H6 := (f13.trans f4).up f6 (fun x hx => by
    rcases List.mem_cons.1 hx with e | e
    · exact .inr (by omega)
    · exact .inr (by have := hkb x (by simpa using e); omega))
  have hw6 : H6[wr]? = _ := f16.get hw1 (by simp)
  have hob6 := hb1.frm f16 (by simp) (by simp)
  have hk6' : ∀ g, k6 = some g → H1.size < g := fun g hg => by
    have h1 := (hb6.lt.2 g hg).2
    have h3 := f13.size
    have h4 := f4.size
    rcases hk6 g hg with e | e
    · rcases List.mem_cons.1 e with e | e
      · exact absurd e h1
      · have := hkb g (by simpa using e); omega
    · omega
  have htxt : delimText last bd ++ linesText (linesOf hs) ++ [13, 10] = delimText last bd ++ headText hs := by simp [headText]
  rw [htxt] at hb6
  simp only [Fld_ptr, add_mk, Nat.zero_add, List.getElem?_toArray, List.getElem?_cons_succ, List.getElem?_cons_zero, Get_some, Br_true, Br_false, nth_zero, nth_one, nth_two, extractV_tuple, fieldAddrV_ptr, nilV_ptr, load1V_ptr, pickV_bool, unV_not, lenV_slice, capV_slice, cellH_of hw6]
  refine (ioCopy_ok hb6 hob6 (by omega) (fun e => by have := (hob1.2 _ e).1; omega) (fun e => by have := hk6' _ e; omega) (fun g hg e => by have := hk6' g hg; have := (hob1.2 g e).1; omega) (by cases last <;> simp [delimText]) (by simp; omega)).mono ?_
  rintro x H7 ⟨rfl, k', hb7, f7, hk7⟩
  have e3 : fillV #[(0, 1), (1, 1), (2, 1)] #[(.pointer none), (.bool false), .nilIface] [(0, .pointer (some ⟨wr, 0, none⟩))] = some #[.pointer (some ⟨wr, 0, none⟩), .bool false, .nilIface] := by
    rw [fillV_cons rfl rfl (by simp), fillV_nil]; rfl
  simp only [Fld_ptr, add_mk, Nat.zero_add, List.getElem?_toArray, List.getElem?_cons_succ, List.getElem?_cons_zero, Get_some, Br_true, Br_false, nth_zero, nth_one, nth_two, extractV_tuple, fieldAddrV_ptr, nilV_ptr, load1V_ptr, pickV_bool, unV_not, lenV_slice, capV_slice, nilV2_neq_nil, e3, Option.map_some, Value.cells]
  have hw7 : H7[wr]? = _ := f7.get hw6 (fun hm => by
    rcases List.mem_cons.1 hm with e | e
    · omega
    · rcases List.mem_cons.1 e with e | e
      · exact n1 e.symm
      · exact n3 (by simpa using e))
  have hp8 := push_same H7 (.cells #[.pointer (some ⟨wr, 0, none⟩), .bool false, .nilIface] 115 (0, 0))
  have f8 : Frm [] H7 (H7.push (.cells #[.pointer (some ⟨wr, 0, none⟩), .bool false, .nilIface] 115 (0, 0))) := Frm.push _ _ _
  have z8 : (H7.push (.cells #[.pointer (some ⟨wr, 0, none⟩), .bool false, .nilIface] 115 (0, 0))).size = H7.size + 1 := by simp
  generalize H7.push (.cells #[.pointer (some ⟨wr, 0, none⟩), .bool false, .nilIface] 115 (0, 0)) = H8 at *
  have hw8 : H8[wr]? = _ := f8.get hw7 (by simp)
  refine Store_of hw8 (by simp) rfl fun H9 hw9 f9 z9 => ?_
  simp only [List.setIfInBounds_toArray, List.set_cons_succ, List.set_cons_zero] at hw9
  have hwr7 := lt_of_some hw7
  have hob7 := hb7.lt
  have hsz16 := f16.size
  have hsz7 := f7.size
  refine ⟨H7.size, k', rfl, ?_, ?_, by omega, ?_⟩
  rotate_right
  · rcases hk7 with e | ⟨g, e, hge⟩
    · exact .inl e
    · exact .inr ⟨g, e, by omega⟩
  · refine { buf := (hb7.frm f8 (by simp) (by simp)).frm f9 (by simpa using n1) (fun g hg => ?_), wr_ := hw9, pt := fun p hp => ?_, low := ⟨h.low.1, h.low.2.1, fun p hp => ?_, fun g hg => ?_⟩, ne := ⟨n1, fun p hp => ?_, ?_, fun e => (hob7.2 _ e).2 rfl⟩ }
    · rw [List.mem_singleton]
      rintro rfl
      rcases hk7 with e | ⟨g', e, hge⟩
      · exact n3 (by rw [← e, hg])
      · rw [hg] at e; cases e; omega
    · cases hp
      exact f9.get hp8 (by rw [List.mem_singleton]; omega)
    · cases hp; omega
    · rcases hk7 with e | ⟨g', e, hge⟩
      · exact h.low.2.2.2 g (by rw [← e, hg])
      · rw [hg] at e; cases e; omega
    · cases hp
      exact ⟨by omega, by omega, fun e => by have := (hob7.2 _ e).1; omega⟩
    · intro e2
      rcases hk7 with e | ⟨g', e, hge⟩
      · exact n3 (by rw [← e, e2])
      · rw [e2] at e; cases e; omega
  · have g1 : Frm (WS.ids ob wr k last) H H1 := f1.mono (fun x hx => by simp only [WS.ids, List.mem_cons, List.mem_append]; exact .inr (.inr (.inl hx)))
    refine (((g1.trans (f16.mono (by simp))).up f7 (fun x hx => ?_)).trans (f8.mono (by simp))).trans (f9.mono (by simp [WS.ids]))
    rcases List.mem_cons.1 hx with rfl | hx
    · exact .inr (by omega)
    · rcases List.mem_cons.1 hx with rfl | hx
      · exact .inl (by simp [WS.ids])
      · exact .inl (by simp only [WS.ids, List.mem_cons, List.mem_append]; exact .inr (.inr (.inr hx)))

theorem createPart_ok {B ob wr m N : Nat} {bd l : List UInt8} {k last : Option Nat} {H : Heap} {E : List Ent} {hs : List Hdr} (h : WS B ob wr bd k last l H) (hB : B ≤ H.size) (hE : Ents H m N E) (hEx : ∀ x ∈ Ents.blks m E, x ∉ WS.ids ob wr k last) (hp : (E.map Ent.hd).Perm hs) (hs' : (hs.map (·.1)).Pairwise (· < ·))
    (hkl : ∀ e ∈ E, e.key.length < 2 ^ 40) (hn : hs.length < 2 ^ 30) (hN : N < 2 ^ 40) (hl : l.length + bd.length + (headText hs).length + 100 < 2 ^ 38) :
    CallsH Tryz.prog 32 #[.pointer (some ⟨wr, 0, none⟩), .map (some m)] H fun x H' => ∃ p k', x = .tuple #[.iface 103 (.pointer (some ⟨p, 0, none⟩)), .nilIface] ∧ WS B ob wr bd k' (some p) (l ++ (delimText last bd ++ headText hs)) H' ∧ Frm (WS.ids ob wr k last) H H' ∧ H.size ≤ p ∧ (k' = k ∨ ∃ g, k' = some g ∧ H.size ≤ g) := by
  refine createPartG_ok (D := WS.ids ob wr k last) (G := E.map fun e => (e.hd, e.pair.2)) h hB (hE.toG hEx) (fun x hx => hx) (by rw [List.map_map]; exact hp) hs' (fun g hg => ?_) hn (fun g hg => ?_) (by omega)
  · obtain ⟨e, he, rfl⟩ := List.mem_map.1 hg
    exact hkl e he
  · obtain ⟨e, he, rfl⟩ := List.mem_map.1 hg
    exact Nat.lt_of_le_of_lt (hE.few e he) hN
end Go.Cps

/-
  CanonicalMIMEHeaderKey of a canonical key; MIMEHeader.Set; CreateFormField, CreateFormFile, WriteField.
  Conditions: each contract's own.
-/
namespace Go.Cps
open Go Go.Proofs

theorem cd_tok : ∀ b ∈ cdKey, tok b.toNat = true := by decide
theorem ct_tok : ∀ b ∈ ctKey, tok b.toNat = true := by decide
end Go.Cps

/-
  The laying of the shelf at this program: slices.SortFunc of headers; what it does at heap level.
  Conditions: none.
-/
namespace Go.Cps
open Go Go.Proofs Go.Shelf Go.RowKit Go.Lib Go.Sort
set_option maxRecDepth 100000
def layHdr_ren : Ren := ⟨fun x => match x with | 6 => 89 | 15 => 106 | 14 => 107 | 28 => 132 | 29 => 133 | 20 => 134 | 21 => 135 | 22 => 136 | 23 => 137 | 24 => 138 | 25 => 139 | 26 => 140 | 27 => 141 | 46 => 155 | 47 => 150 | 48 => 151 | 49 => 156 | 50 => 157 | 57 => 163 | n => n, fun x => match x with | 22 => 37 | 24 => 90 | 25 => 150 | 3 => 3 | 39 => 170 | 0 => 0 | 53 => 204 | 55 => 206 | 4 => 4 | 46 => 198 | 45 => 197 | 50 => 141 | 5 => 5 | 9 => 9 | 66 => 225 | 70 => 229 | 76 => 245 | 77 => 246 | n => n, fun n => n⟩
theorem layHdr : SlLaysF0.n6 Tryz.prog layHdr_ren :=
  { mixed := by kernel_rfl,
    f6 := ⟨"slices.SortFunc[[]loop.example/pub-mailparts/impl.Header,loop.example/pub-mailparts/impl.Header]", by kernel_rfl, by kernel_rfl⟩,
    f14 := ⟨"slices.pdqsortCmpFunc[loop.example/pub-mailparts/impl.Header]", by kernel_rfl, by kernel_rfl⟩,
    f15 := by kernel_rfl,
    f20 := ⟨"slices.insertionSortCmpFunc[loop.example/pub-mailparts/impl.Header]", by kernel_rfl, by kernel_rfl⟩,
    f21 := ⟨"slices.heapSortCmpFunc[loop.example/pub-mailparts/impl.Header]", by kernel_rfl, by kernel_rfl⟩,
    f22 := ⟨"slices.breakPatternsCmpFunc[loop.example/pub-mailparts/impl.Header]", by kernel_rfl, by kernel_rfl⟩,
    f23 := ⟨"slices.choosePivotCmpFunc[loop.example/pub-mailparts/impl.Header]", by kernel_rfl, by kernel_rfl⟩,
    f24 := ⟨"slices.reverseRangeCmpFunc[loop.example/pub-mailparts/impl.Header]", by kernel_rfl, by kernel_rfl⟩,
    f25 := ⟨"slices.partialInsertionSortCmpFunc[loop.example/pub-mailparts/impl.Header]", by kernel_rfl, by kernel_rfl⟩,
    f26 := ⟨"slices.partitionEqualCmpFunc[loop.example/pub-mailparts/impl.Header]", by kernel_rfl, by kernel_rfl⟩,
    f27 := ⟨"slices.partitionCmpFunc[loop.example/pub-mailparts/impl.Header]", by kernel_rfl, by kernel_rfl⟩,
    f28 := by kernel_rfl,
    f29 := by kernel_rfl,
    f46 := ⟨"slices.siftDownCmpFunc[loop.example/pub-mailparts/impl.Header]", by kernel_rfl, by kernel_rfl⟩,
    f47 := by kernel_rfl,
    f48 := by kernel_rfl,
    f49 := ⟨"slices.medianAdjacentCmpFunc[loop.example/pub-mailparts/impl.Header]", by kernel_rfl, by kernel_rfl⟩,
    f50 := ⟨"slices.medianCmpFunc[loop.example/pub-mailparts/impl.Header]", by kernel_rfl, by kernel_rfl⟩,
    f57 := ⟨"slices.order2CmpFunc[loop.example/pub-mailparts/impl.Header]", by kernel_rfl, by kernel_rfl⟩,
    t0 := by kernel_rfl,
    a0 := fun _ => by kernel_rfl,
    z0 := fun _ => by kernel_rfl,
    v0 := fun _ => by kernel_rfl,
    t3 := by kernel_rfl,
    a3 := fun _ => by kernel_rfl,
    z3 := fun _ => by kernel_rfl,
    v3 := fun _ => by kernel_rfl,
    t4 := by kernel_rfl,
    a4 := fun _ => by kernel_rfl,
    z4 := fun _ => by kernel_rfl,
    v4 := fun _ => by kernel_rfl,
    t5 := by kernel_rfl,
    a5 := fun _ => by kernel_rfl,
    z5 := fun _ => by kernel_rfl,
    v5 := fun _ => by kernel_rfl,
    t9 := by kernel_rfl,
    a9 := fun _ => by kernel_rfl,
    z9 := fun _ => by kernel_rfl,
    v9 := fun _ => by kernel_rfl,
    t22 := by kernel_rfl,
    a22 := fun _ => by kernel_rfl,
    z22 := fun _ => by kernel_rfl,
    v22 := fun _ => by kernel_rfl,
    t25 := by kernel_rfl,
    a25 := fun _ => by kernel_rfl,
    z25 := fun _ => by kernel_rfl,
    v25 := fun _ => by kernel_rfl,
    t39 := by kernel_rfl,
    a39 := fun _ => by kernel_rfl,
    z39 := fun _ => by kernel_rfl,
    v39 := fun _ => by kernel_rfl,
    t45 := by kernel_rfl,
    a45 := fun _ => by kernel_rfl,
    z45 := fun _ => by kernel_rfl,
    v45 := fun _ => by kernel_rfl,
    t46 := by kernel_rfl,
    a46 := fun _ => by kernel_rfl,
    z46 := fun _ => by kernel_rfl,
    v46 := fun _ => by kernel_rfl,
    t50 := by kernel_rfl,
    a50 := fun _ => by kernel_rfl,
    z50 := fun _ => by kernel_rfl,
    v50 := fun _ => by kernel_rfl,
    t53 := by kernel_rfl,
    a53 := fun _ => by kernel_rfl,
    z53 := fun _ => by kernel_rfl,
    v53 := fun _ => by kernel_rfl,
    t55 := by kernel_rfl,
    a55 := fun _ => by kernel_rfl,
    z55 := fun _ => by kernel_rfl,
    v55 := fun _ => by kernel_rfl,
    t66 := by kernel_rfl,
    a66 := fun _ => by kernel_rfl,
    z66 := fun _ => by kernel_rfl,
    v66 := fun _ => by kernel_rfl,
    t70 := by kernel_rfl,
    a70 := fun _ => by kernel_rfl,
    z70 := fun _ => by kernel_rfl,
    v70 := fun _ => by kernel_rfl,
    t76 := by kernel_rfl,
    a76 := fun _ => by kernel_rfl,
    z76 := fun _ => by kernel_rfl,
    v76 := fun _ => by kernel_rfl,
    t77 := by kernel_rfl,
    a77 := fun _ => by kernel_rfl,
    z77 := fun _ => by kernel_rfl,
    v77 := fun _ => by kernel_rfl }

/-- what the closure of headers tells of two headers -/
def cfH (a b : Hdr × Value) : Int := if Op.bytesLess a.1.1 b.1.1 then -1 else 1
set_option maxHeartbeats 1000000 in
theorem cmp90 (a b : Hdr × Value) (W : World) : Calls Tryz.prog 90 #[.agg #[strVal a.1.1, a.2], .agg #[strVal b.1.1, b.2]] W fun e w' => e = .returned (.int .i64 (cfH a b)) ∧ ∃ q os', w' = grow (W.drewN q) os' := by
  unfold cfH
  obtain ⟨⟨k, _⟩, y⟩ := a
  obtain ⟨⟨k', _⟩, y'⟩ := b
  unfold strVal
  go_enter Tryz.func90, Tryz.ntmps90
  go_wp2
  all_goals go_ret
  all_goals first
    | (exact ⟨rfl, 0, _, by rw [alloc_eq_grow, alloc_eq_grow, grow_grow]; rfl⟩)
    | (exfalso; simp_all; done)

def one1 (v : Value) : Value := if v.oneCell' then v else .nilIface
theorem one1_one (v : Value) : (one1 v).oneCell' = true := by
  unfold one1
  split
  · assumption
  · rfl
/-- a header's cells -/
def encH (x : Hdr × Value) : List Value := [strVal x.1.1, one1 x.2]
theorem ltH (x y : Hdr × Value) : ltOf cfH x y = decide (x.1.1 < y.1.1) := by
  unfold ltOf cfH
  rw [bytesLess_eq]
  by_cases h : x.1.1 < y.1.1 <;> simp [h]
theorem swoH : SWO (ltOf cfH) where
  irrefl x := by rw [ltH]; simp [List.lt_irrefl]
  trans x y z h1 h2 := by rw [ltH] at *; simp only [decide_eq_true_eq] at *; exact List.lt_trans h1 h2
  ntrans x y z h1 h2 := by
    rw [ltH] at *
    simp only [decide_eq_false_iff_not, List.not_lt] at *
    exact List.le_trans h2 h1
instance : Inhabited (Hdr × Value) := ⟨(([], []), undef)⟩
theorem enters90 : ∀ args w, (callFunc 90 args).run Tryz.prog w = .ok (.enter 90 args) w := enters_of Tryz.func90 (by kernel_rfl) rfl
theorem agg90 (w : World) : (isAgg 90).run Tryz.prog w = .ok true w := by kernel_rfl
theorem size90 (w : World) : (Go.sizeOf 90).run Tryz.prog w = .ok 2 w := by kernel_rfl
theorem cmpLays90 (blk off size : Nat) (w : World) : CmpLays Tryz.prog 90 #[] encH 2 cfH blk off size w :=
  fun _ _ _ _ x y => cmp90 (x.1, one1 x.2) (y.1, one1 y.2) _
theorem encH_one (x : Hdr × Value) : ∀ v ∈ encH x, v.oneCell' = true := by
  intro v hv
  simp only [encH, List.mem_cons, List.not_mem_nil, or_false] at hv
  rcases hv with rfl | rfl
  · rfl
  · exact one1_one _
theorem sort89 (blk off cap : Nat) (d : Array (Hdr × Value)) (w : World) (hH : HoldsK encH 2 w blk off d) (hblk : blk < w.heap.size) (hsz : d.size < 4611686018427387904) :
    Calls Tryz.prog 89 #[.slice (some ⟨blk, off, none⟩) d.size cap, .func (.func 90) #[] #[]] w fun e w' => e = .returned (.tuple #[]) ∧ ∃ d' n os, PermIn 0 d.size d d' ∧ SortedIn (ltOf cfH) 0 d.size d' ∧ w' = sortWorldK encH 2 w blk off n d' os :=
  AnyQ.slices_SortFunc layHdr 2 agg90 size90 encH (fun _ => rfl) encH_one cfH swoH 90 #[] blk off cap d w enters90 (cmpLays90 blk off d.size w) hH hblk hsz
theorem sort89_none (p : Option Addr) (cap : Nat) (fv : Value) (w : World) : Calls Tryz.prog 89 #[.slice p 0 cap, fv] w fun e w' => e = .returned (.tuple #[]) ∧ w' = w :=
  AnyF.slices_SortFunc_none layHdr p cap fv w

/-- the heap behind the sort -/
theorem sortWorld_heap {g n : Nat} {cells : Array Value} {T : TypeId} {w : World} {d : Array (Hdr × Value)} {os : Array Obj} (hg : w.heap[g]? = some (.cells cells T (0, 0))) (hs : d.size * 2 ≤ cells.size) :
    Same w (sortWorldK encH 2 w g 0 n d os) ∧ ∃ cells', (sortWorldK encH 2 w g 0 n d os).heap[g]? = some (.cells cells' T (0, 0)) ∧ cells'.size = cells.size ∧ (∀ j, j < d.size → cells'[j * 2]? = some (strVal d[j]!.1.1) ∧ cells'[j * 2 + 1]? = some (one1 d[j]!.2)) ∧ Frm [g] w.heap (sortWorldK encH 2 w g 0 n d os).heap := by
  have hlt := lt_of_some hg
  have hh : (sortWorldK encH 2 w g 0 n d os).heap = (w.heap.modify g (onCells (putCells id 0 (flatK encH 2 d)))) ++ os := rfl
  refine ⟨⟨rfl, rfl, rfl⟩, putCells id 0 (flatK encH 2 d) cells, ?_, by simp [putCells], fun j hj => ?_, ⟨by rw [hh]; simp, fun k hk hn => ?_⟩⟩
  · rw [hh, Array.getElem?_append_left (by simpa using hlt), Array.getElem?_modify, if_pos rfl, hg]
    rfl
  · have h1 : j * 2 < (flatK encH 2 d).size := by simp; omega
    have h2 : j * 2 + 1 < (flatK encH 2 d).size := by simp; omega
    have e1 := get_flatK encH 2 d (j * 2) (by omega)
    have e2 := get_flatK encH 2 d (j * 2 + 1) (by omega)
    rw [show j * 2 / 2 = j by omega, show j * 2 % 2 = 0 by omega] at e1
    rw [show (j * 2 + 1) / 2 = j by omega, show (j * 2 + 1) % 2 = 1 by omega] at e2
    simp only [size_flatK] at h1 h2
    constructor
    · simp only [putCells, Array.getElem?_mapIdx, size_flatK, Nat.zero_add, Nat.sub_zero]
      rw [Array.getElem?_eq_getElem (by omega : j * 2 < cells.size), Option.map_some, if_pos ⟨by omega, by omega⟩, e1]
      rfl
    · simp only [putCells, Array.getElem?_mapIdx, size_flatK, Nat.zero_add, Nat.sub_zero]
      rw [Array.getElem?_eq_getElem (by omega : j * 2 + 1 < cells.size), Option.map_some, if_pos ⟨by omega, by omega⟩, e2]
      rfl
  · rw [hh, Array.getElem?_append_left (by simpa using hk), Array.getElem?_modify, if_neg (fun e => hn (by simp [e]))]

theorem one1_slice {w : Nat} {α : Type} {R : List Nat → Heap → α → List Value → Prop} {D : List Nat} {H : Heap} {v : Value} {l : List α} (h : SlV w R D H v l) : one1 v = v := by
  rcases h with ⟨b, o, c, rfl, _⟩ | ⟨_, rfl, _⟩ <;> rfl

theorem sortHeaders_ok {D : List Nat} {H : Heap} {k : Option Nat} {v : Value} {hs : List Hdr} (h : OwnS 2 90 HeadR D H k v hs) (hl : hs.length < 2 ^ 40) :
    CallsH Tryz.prog 89 #[v, .func (.func 90) #[] #[]] H fun x H' => ∃ hs' : List Hdr, hs'.Perm hs ∧ hs'.Pairwise (fun a b => ¬ b.1 < a.1) ∧ OwnS 2 90 HeadR D H' k v hs' ∧ Frm k.toList H H' := by
  intro w hw
  subst hw
  cases k with
  | none =>
    obtain ⟨rfl, rfl⟩ := h
    refine (sort89_none none 0 _ w).mono ?_
    rintro e w' ⟨rfl, rfl⟩
    exact ⟨_, rfl, .refl _, [], List.Perm.refl _, List.Pairwise.nil, ⟨rfl, rfl⟩, Frm.refl _ _⟩
  | some g =>
    obtain ⟨cells, c, rfl, hg, hc, hlc, hgD, he⟩ := h
    have hlt := lt_of_some hg
    generalize hd : (Array.ofFn fun j : Fin hs.length => (hs[j], cells.getD (j.1 * 2 + 1) undef)) = d
    have hds : d.size = hs.length := by rw [← hd]; simp
    have hdj : ∀ (j : Nat) (hj : j < hs.length), d[j]! = (hs[j], cells.getD (j * 2 + 1) undef) := fun j hj => by
      rw [← hd, getElem!_pos _ j (by simpa using hj)]
      simp
    have hel : ∀ (j : Nat) (hj : j < hs.length), ∃ y, d[j]! = (hs[j], y) ∧ cells[j * 2]? = some (strVal hs[j].1) ∧ cells[j * 2 + 1]? = some y ∧ StrsV (g :: D) w.heap y hs[j].2 := fun j hj => by
      obtain ⟨vs, g1, ⟨y, rfl, hy⟩, g3⟩ := he j hj
      have h0 := g3 0 (by omega)
      have h1 := g3 1 (by omega)
      simp only [List.getElem?_cons_zero, List.getElem?_cons_succ, Nat.add_zero] at h0 h1
      refine ⟨y, ?_, h0, h1, hy⟩
      rw [hdj j hj, Array.getD_eq_getD_getElem?, h1]
      rfl
    have hH : HoldsK encH 2 w g 0 d := by
      intro t ht
      simp only [size_flatK] at ht
      rw [get_flatK _ _ _ _ ht]
      obtain ⟨y, e1, e2, e3, e4⟩ := hel (t / 2) (by omega)
      refine ⟨?_, ?_⟩
      · rw [cellH_eq, cellH_of hg, Nat.zero_add, e1, id]
        rcases Nat.mod_two_eq_zero_or_one t with h | h
        · rw [h]
          have ht2 : t = t / 2 * 2 := by omega
          rw [show cells[t]? = cells[t / 2 * 2]? by rw [← ht2], e2]
          rfl
        · rw [h]
          have ht2 : t = t / 2 * 2 + 1 := by omega
          rw [show cells[t]? = cells[t / 2 * 2 + 1]? by rw [← ht2], e3]
          show some y = some (one1 y)
          rw [one1_slice e4]
      · rw [frozenH_eq, frozenH, hg]
        simp
    have hsc := sort89 g 0 c d w hH hlt (by omega)
    rw [hds] at hsc
    refine hsc.mono ?_
    rintro e w' ⟨rfl, d', n, os, hp, hso, rfl⟩
    obtain ⟨hps, _, hpp⟩ := hp
    have hd's : d'.size = hs.length := hps.trans hds
    obtain ⟨hsame, cells', hg', hcs', hcell', hfr⟩ := sortWorld_heap (n := n) (d := d') (os := os) hg (by omega)
    have hpp2 : d'.toList.Perm d.toList := by
      have e1 : d'.extract 0 hs.length = d' := by rw [← hd's]; exact Array.extract_size
      have e2 : d.extract 0 hs.length = d := by rw [← hds]; exact Array.extract_size
      rw [e1, e2] at hpp
      exact hpp
    have hdl : d.toList.map (·.1) = hs := by
      apply List.ext_getElem?
      intro i
      rw [List.getElem?_map, Array.getElem?_toList]
      by_cases hi : i < hs.length
      · have := hdj i hi
        rw [getElem!_pos d i (by omega)] at this
        rw [Array.getElem?_eq_getElem (by omega), List.getElem?_eq_getElem hi, this]
        rfl
      · rw [Array.getElem?_eq_none (by omega), List.getElem?_eq_none (by omega)]
        rfl
    refine ⟨_, rfl, hsame, d'.toList.map (·.1), ?_, ?_, ?_, hfr⟩
    · have := hpp2.map (·.1)
      rw [hdl] at this
      exact this
    · rw [List.pairwise_iff_getElem]
      intro i j hi hj hij
      simp only [List.length_map, Array.length_toList] at hi hj
      have := hso i j (Nat.zero_le _) hij (by omega)
      rw [ltH, getElem!_pos d' i hi, getElem!_pos d' j hj] at this
      simpa using this
    · have hlen' : (d'.toList.map (·.1)).length = hs.length := by simp [hd's]
      refine ⟨cells', c, by rw [hlen'], hg', by rw [hcs', hc], by omega, hgD, fun j hj => ?_⟩
      rw [hlen'] at hj
      obtain ⟨h1, h2⟩ := hcell' j (by omega)
      have hmem : d'[j]! ∈ d.toList := by
        rw [getElem!_pos d' j (by omega)]
        exact hpp2.mem_iff.1 (by simp)
      obtain ⟨i, hi, hie⟩ := List.getElem_of_mem hmem
      simp only [Array.length_toList, Array.getElem_toList] at hi hie
      obtain ⟨y, e1, _, _, e4⟩ := hel i (by omega)
      rw [getElem!_pos d i hi, hie] at e1
      have hgj : (d'.toList.map (·.1))[j]'(by omega) = hs[i] := by
        have : d'[j]! = d'[j] := getElem!_pos d' j (by omega)
        simp only [List.getElem_map, Array.getElem_toList]
        rw [← this, e1]
      rw [e1] at h1 h2
      simp only [one1_slice e4] at h1 h2
      refine ⟨[strVal hs[i].1, y], rfl, ?_, fun q hq => ?_⟩
      · rw [hgj]
        exact ⟨y, rfl, e4.frm strR_ok hfr (fun x hx => by rw [List.mem_singleton] at hx; subst hx; exact .inl (by simp))⟩
      · rcases q with _ | _ | q
        · simpa using h1
        · simpa using h2
        · omega
end Go.Cps

/-
  Closing a raw part that has been read whole; the part's environment when its reader names it.
  Conditions: each contract's own.
-/
namespace Go.Cps
open Go Go.Proofs

theorem RB.setm {S : Stk} {mr tb : Nat} {m m' : MRf} {bd : List UInt8} {B : Nat} {ea ua : Addr} {mode : Option (List UInt8)} {pt hm : Nat} {b : List UInt8} {n total : Nat} {ev : Sk} {re : Bool} {s : St} {H H' : Heap}
    (h : RB (rawEnv S mr tb m bd B ea ua mode pt hm) b n total ev re s H) (hm' : H'[mr]? = some (.cells m'.cells 127 (0, 0))) (f : Frm [mr] H H') (he : m'.br = m.br ∧ m'.nl = m.nl ∧ m'.nld = m.nld ∧ m'.dd = m.dd ∧ m'.dash = m.dash) :
    RB (rawEnv S mr tb m' bd B ea ua mode pt hm) b n total ev re s H' := by
  have hpt : pt ∉ mr :: tb :: S.ids := h.hpt
  simp only [List.mem_cons, not_or] at hpt
  have ma : MRAt S mr tb m bd H := h.ma
  have hne : ∀ x ∈ S.ids, x ∉ [mr] := fun x hx => by rw [List.mem_singleton]; rintro rfl; exact ma.hmr hx
  have htb : tb ∉ [mr] := by rw [List.mem_singleton]; intro e; exact ma.ht (by simp [e])
  obtain ⟨e1, e2, e3, e4, e5⟩ := he
  have hrd : RdAt S s H' := h.rd.frm f hne (fun x hx => by rw [List.mem_singleton]; rintro rfl; exact ma.hv hx) (by rw [List.mem_singleton]; exact fun e => ma.h0 e.symm)
  have hp : H'[pt]? = some (.cells (ptCells (rawEnv S mr tb m bd B ea ua mode pt hm).P mr n total (skV (.iface 138 (.pointer (some ea))) (.iface 138 (.pointer (some ua))) ev) (if re then .iface 138 (.pointer (some ua)) else .nilIface)) 148 (0, 0)) := f.get h.hp (by rw [List.mem_singleton]; exact hpt.1)
  refine { rd := hrd, ma := ?_, hp := hp, er := ?_, bdr := h.bdr, rest := h.rest, nw := h.nw, t0 := h.t0, nb := h.nb, nk := h.nk, full := h.full, cut := h.cut, tot := h.tot, low := h.low, hpt := h.hpt, hpv := h.hpv, hE := h.hE }
  · exact { hm := hm', hbr := by rw [show (rawEnv S mr tb m' bd B ea ua mode pt hm).m = m' from rfl, e1]; exact ma.hbr, nl := by
              rw [show (rawEnv S mr tb m' bd B ea ua mode pt hm).m = m' from rfl, e2]; exact ma.nl.frm f (fun x hx => by rw [ma.bl.1] at hx; cases hx; exact htb), nld := by
              rw [show (rawEnv S mr tb m' bd B ea ua mode pt hm).m = m' from rfl, e3]; exact ma.nld.frm f (fun x hx => by rw [ma.bl.2.1] at hx; cases hx; exact htb), dd := by
              rw [show (rawEnv S mr tb m' bd B ea ua mode pt hm).m = m' from rfl, e4]; exact ma.dd.frm f (fun x hx => by rw [ma.bl.2.2.1] at hx; cases hx; exact htb), dash := by
              rw [show (rawEnv S mr tb m' bd B ea ua mode pt hm).m = m' from rfl, e5]; exact ma.dash.frm f (fun x hx => by rw [ma.bl.2.2.2] at hx; cases hx; exact htb), bl := by
              rw [show (rawEnv S mr tb m' bd B ea ua mode pt hm).m = m' from rfl, e2, e3, e4, e5]; exact ma.bl, ht := ma.ht, hmr := ma.hmr, hv := ma.hv, h0 := ma.h0 }
  · exact Errs.frm (B := B) h.er f (fun x hx => by
      rw [List.mem_singleton] at hx; subst hx
      exact h.low x (by simp [rawEnv]))

theorem ahead116 (a : Addr) : aheadP Tryz.prog 116 (.pointer (some a)) "Read" = true := by kernel_rfl
theorem RB.pr {S : Stk} {mr tb : Nat} {m : MRf} {bd : List UInt8} {B : Nat} {ea ua : Addr} {mode : Option (List UInt8)} {pt hm : Nat} {b : List UInt8} {n total : Nat} {ev : Sk} {re : Bool} {s : St} {H : Heap}
    (h : RB (rawEnv S mr tb m bd B ea ua mode pt hm) b n total ev re s H) (h5 : S.tbf = 5) (hv : ∀ x, blk S.v = some x → x < H.size) (htb : tb < H.size) (hB : B ≤ H.size) : PR S mr tb m bd B ea ua s H :=
  ⟨h.rd, h.ma, h.er, h.bdr, fun x hx => h.low x (by simp only [rawEnv] at hx ⊢; simp only [List.mem_cons] at hx ⊢; exact .inr hx), h.hE, h5, hv, htb, hB⟩

/-- a raw part read whole, closed -/
theorem closeRaw_ok {S : Stk} {mr tb : Nat} {m : MRf} {bd : List UInt8} {B : Nat} {ea ua : Addr} {t : List UInt8} {pt hm : Nat} {total : Nat} {s : St} {H : Heap} (h : RB (rawEnv S mr tb m bd B ea ua (some t) pt hm) [] 0 total .eof false s H) (h5 : S.tbf = 5) (hv : ∀ x, blk S.v = some x → x < H.size) (htb : tb < H.size) (hB : B ≤ H.size) (hcur : m.cur = .pointer (some ⟨pt, 0, none⟩)) :
    Closes S mr tb m bd B ea ua (nldOf bd ++ t) [pt] H := by
  refine .inr ⟨⟨pt, 0, none⟩, hcur, h.ma.hm, ?_⟩
  have hPR := h.pr h5 hv htb hB
  apply s92
  simp only [c92, Get_some]
  apply s108
  simp only [c108, New]
  have f1 : Frm [] H (H.push (.cells (Array.replicate 512 (.int .u8 0)) 212 (0, 0))) := Frm.push _ _ _
  have hd := push_same H (.cells (Array.replicate 512 (.int .u8 0)) 212 (0, 0))
  have h1 := h.push (.cells (Array.replicate 512 (.int .u8 0)) 212 (0, 0))
  have z1 : (H.push (.cells (Array.replicate 512 (.int .u8 0)) 212 (0, 0))).size = H.size + 1 := by simp
  generalize H.push (.cells (Array.replicate 512 (.int .u8 0)) 212 (0, 0)) = H1 at *
  refine ⟨fun n vs H2 => H2 = H1, ⟨0, rfl⟩, ?_⟩
  rintro n vs H1 rfl
  have e1 : arrSliceV 512 1 (.pointer (some ⟨H.size, 0, none⟩)) none none none = some (.slice (some ⟨H.size, 0, none⟩) 512 512) := by simp [arrSliceV, boundsV, boundV, Addr.add]
  simp only [e1, Fld_ptr, add_mk, Nat.zero_add, List.getElem?_toArray, List.getElem?_cons_succ, List.getElem?_cons_zero, Get_some, Br_true, Br_false, nth_zero, nth_one, nth_two, extractV_tuple, fieldAddrV_ptr, nilV_ptr, load1V_ptr, pickV_bool, unV_not, lenV_slice, capV_slice, nilV_method (ahead116 _)]
  refine invoke_of 213 meth116 body213 ?_
  have hlow : ∀ x ∈ pt :: mr :: tb :: S.ids, x < H.size := fun x hx => by
    rcases List.mem_cons.1 hx with rfl | hx
    · exact lt_of_some h.hp
    · exact hPR.lt x hx
  refine (pRead_ok (e := rawEnv S mr tb m bd B ea ua (some t) pt hm) (dn := 512) (dc := 512) rfl h1 hd (by simp) (Nat.le_refl _) (by omega) (by omega) (fun hm => by have := hlow _ hm; omega) hB (fun hh => by have := hv _ hh; omega)).mono ?_
  rintro x H2 ⟨k, n', total', ev', re', s', rfl, hk1, hk2, h2, hd2, f2, g1, g2⟩
  have hk0 : k = 0 := by simpa using hk2
  subst hk0
  have hn0 := g2 rfl
  subst hn0
  have hne : ev' ≠ .go := fun e => by have := g1 rfl e; omega
  have hgo : ev'.isGo = false := by rw [← Bool.not_eq_true, Sk.isGo_iff]; exact hne
  simp only [Fld_ptr, add_mk, Nat.zero_add, List.getElem?_toArray, List.getElem?_cons_succ, List.getElem?_cons_zero, Get_some, Br_true, Br_false, nth_zero, nth_one, nth_two, extractV_tuple, fieldAddrV_ptr, nilV_ptr, load1V_ptr, pickV_bool, unV_not, lenV_slice, capV_slice, if_true, skV_neq, hgo, Bool.not_false]
  have hr2 : s'.rest S = nldOf bd ++ t := by have := h2.rest; simpa [rawEnv, REnv.tail] using this
  exact ⟨s', h2.pr h5 (fun x hx => by have := hv x hx; have := f2.size; omega) (by have := f2.size; omega) (by have := f2.size; omega), hr2, (f1.mono (by simp)).up f2 (fun x hx => by
    rcases List.mem_cons.1 hx with rfl | hx
    · exact .inr (Nat.le_refl _)
    · exact .inl (by simpa [rawEnv] using hx))⟩
end Go.Cps

/-
  impl.headers; what reading makes of lines: the sorted header.
  Conditions: each contract's own.
-/
namespace Go.Cps
open Go Go.Proofs

theorem addH_keys (k v : List UInt8) : ∀ (l : List Hdr), (addH k v l).map (·.1) = if k ∈ l.map (·.1) then l.map (·.1) else l.map (·.1) ++ [k]
  | [] => rfl
  | p :: r => by
    simp only [addH]
    by_cases h : p.1 = k
    · rw [if_pos h, if_pos (by simp [h])]
      rfl
    · rw [if_neg h, List.map_cons, addH_keys k v r]
      by_cases h2 : k ∈ r.map (·.1)
      · rw [if_pos h2, if_pos (by simp only [List.map_cons, List.mem_cons]; exact .inr h2)]
        rfl
      · rw [if_neg h2, if_neg (by simp only [List.map_cons, List.mem_cons, not_or]; exact ⟨fun e => h e.symm, h2⟩)]
        rfl
theorem addH_nodup {k v : List UInt8} {l : List Hdr} (h : (l.map (·.1)).Nodup) : ((addH k v l).map (·.1)).Nodup := by
  rw [addH_keys]
  split
  · exact h
  · rename_i hn
    rw [List.nodup_append]
    refine ⟨h, by simp, fun a ha b hb => ?_⟩
    rw [List.mem_singleton] at hb
    rintro rfl
    exact hn (hb ▸ ha)
theorem addH_vals (k v : List UInt8) (n : Nat) : ∀ (l : List Hdr), (∀ p ∈ l, p.2 ≠ [] ∧ p.2.length ≤ n) → ∀ p ∈ addH k v l, p.2 ≠ [] ∧ p.2.length ≤ n + 1
  | [], _, p, hp => by simp [addH] at hp; subst hp; simp
  | q :: r, h, p, hp => by
    simp only [addH] at hp
    split at hp
    · rcases List.mem_cons.1 hp with rfl | hp
      · have := (h q (by simp)).2
        simp; omega
      · have := h p (by simp [hp])
        exact ⟨this.1, by omega⟩
    · rcases List.mem_cons.1 hp with rfl | hp
      · have := h p (by simp)
        exact ⟨this.1, by omega⟩
      · exact addH_vals k v n r (fun p hp => h p (by simp [hp])) p hp
theorem hdrFrom_nodup : ∀ (ls : List (List UInt8 × List UInt8)) (acc : List Hdr), (acc.map (·.1)).Nodup → ((hdrFrom acc ls).map (·.1)).Nodup
  | [], _, h => h
  | kv :: ls, acc, h => hdrFrom_nodup ls _ (addH_nodup h)
theorem hdrOf_nodup (ls : List (List UInt8 × List UInt8)) : ((hdrOf ls).map (·.1)).Nodup := hdrFrom_nodup ls [] (by simp)
theorem hdrFrom_vals : ∀ (ls : List (List UInt8 × List UInt8)) (acc : List Hdr) (n : Nat), (∀ p ∈ acc, p.2 ≠ [] ∧ p.2.length ≤ n) → ∀ p ∈ hdrFrom acc ls, p.2 ≠ [] ∧ p.2.length ≤ n + ls.length
  | [], _, _, h => h
  | kv :: ls, acc, n, h => fun p hp => by
    have := hdrFrom_vals ls _ (n + 1) (addH_vals _ _ n acc h) p hp
    exact ⟨this.1, by simp; omega⟩
theorem hdrOf_vals (ls : List (List UInt8 × List UInt8)) : ∀ p ∈ hdrOf ls, p.2 ≠ [] ∧ p.2.length ≤ ls.length := fun p hp => by
  have := hdrFrom_vals ls [] 0 (by simp) p hp
  exact ⟨this.1, by omega⟩
theorem addH_len (k v : List UInt8) : ∀ (l : List Hdr), (addH k v l).length ≤ l.length + 1
  | [] => by simp [addH]
  | p :: r => by
    simp only [addH]
    split
    · simp
    · have := addH_len k v r; simp; omega
theorem hdrFrom_len : ∀ (ls : List (List UInt8 × List UInt8)) (acc : List Hdr), (hdrFrom acc ls).length ≤ acc.length + ls.length
  | [], _ => Nat.le_refl _
  | kv :: ls, acc => by
    have h1 := hdrFrom_len ls (addH (canonG true kv.1) kv.2 acc)
    have h2 := addH_len (canonG true kv.1) kv.2 acc
    show (hdrFrom (addH (canonG true kv.1) kv.2 acc) ls).length ≤ _
    simp; omega

/-- a header, sorted by its keys -/
def sortHs (l : List Hdr) : List Hdr := l.mergeSort fun a b => decide (a.1 ≤ b.1)
theorem sortHs_perm (l : List Hdr) : (sortHs l).Perm l := List.mergeSort_perm _ _
theorem sortHs_sorted (l : List Hdr) : (sortHs l).Pairwise fun a b => a.1 ≤ b.1 := by
  have := List.pairwise_mergeSort (le := fun a b : Hdr => decide (a.1 ≤ b.1)) (fun a b c h1 h2 => by simp only [decide_eq_true_eq] at *; exact List.le_trans h1 h2) (fun a b => by simpa using List.le_total a.1 b.1) l
  exact this.imp fun h => by simpa using h
theorem key_inj {l : List Hdr} (h : (l.map (·.1)).Nodup) : ∀ {a b : Hdr}, a ∈ l → b ∈ l → a.1 = b.1 → a = b := by
  induction l with
  | nil => intro a b ha; cases ha
  | cons x r ih =>
    rw [List.map_cons, List.nodup_cons] at h
    intro a b ha hb e
    rcases List.mem_cons.1 ha with ea | ha2 <;> rcases List.mem_cons.1 hb with eb | hb2
    · rw [ea, eb]
    · subst ea; exact (h.1 (List.mem_map.2 ⟨b, hb2, e.symm⟩)).elim
    · subst eb; exact (h.1 (List.mem_map.2 ⟨a, ha2, e⟩)).elim
    · exact ih h.2 ha2 hb2 e
theorem sortHs_eq {hs l : List Hdr} (hp : hs.Perm l) (hn : (l.map (·.1)).Nodup) (hs' : hs.Pairwise fun a b => a.1 ≤ b.1) : hs = sortHs l :=
  List.Perm.eq_of_pairwise (le := fun a b : Hdr => a.1 ≤ b.1) (fun a b ha hb h1 h2 => key_inj hn (hp.mem_iff.1 ha) ((sortHs_perm l).mem_iff.1 hb) (List.le_antisymm h1 h2)) hs' (sortHs_sorted l) (hp.trans (sortHs_perm l).symm)

/-- impl.headers -/
theorem headers_ok {H : Heap} {pt mr n total T : Nat} {P : PF} {ev rv : Value} {m N : Nat} {E : List Ent} {D : List Nat} {ls : List (List UInt8 × List UInt8)} (hp : H[pt]? = some (.cells (ptCells P mr n total ev rv) T (0, 0))) (hP : P.hdr = .map (some m)) (hE : Ents H m N E) (hhd : E.map Ent.hd = hdrOf ls) (hl : ls.length < 2 ^ 29) (hD : ∀ x ∈ D, x < H.size) :
    CallsH Tryz.prog 67 #[.pointer (some ⟨pt, 0, none⟩)] H fun x H' => HeadsV D H' x (sortHs (hdrOf ls)) ∧ Frm [] H H' := by
  have hlen := congrArg List.length hhd
  have hll := hdrFrom_len ls []
  simp only [List.length_map, List.length_nil] at hlen hll
  have hll2 : (hdrOf ls).length ≤ ls.length := by unfold hdrOf; omega
  apply s67
  simp only [c67, Fld_ptr, add_mk, Nat.zero_add, List.getElem?_toArray, List.getElem?_cons_succ, List.getElem?_cons_zero, Get_some, Br_true, Br_false, nth_zero, nth_one, nth_two, extractV_tuple, fieldAddrV_ptr, nilV_ptr, load1V_ptr, pickV_bool, unV_not, lenV_slice, capV_slice, cellH_of hp, ptCells, hP]
  have hev : ∀ e ∈ E, e.vs ≠ [] ∧ e.vs.length < 2 ^ 30 := fun e he => by
    have : e.hd ∈ hdrOf ls := by rw [← hhd]; exact List.mem_map.2 ⟨e, he, rfl⟩
    have := hdrOf_vals ls _ this
    exact ⟨this.1, by have := this.2; show e.vs.length < _; simp only [Ent.hd] at this; omega⟩
  obtain ⟨x10, H0, hx, hloop⟩ := headersLoop_ok (D := D) (K := fun out H1 => CallsH Tryz.prog 89 #[out, .func (.func 90) #[] #[]] H1 fun _ H' => HeadsV D H' out (sortHs (hdrOf ls)) ∧ Frm [] H H') hE hev (by omega) hD (fun k out hs H1 hout hperm f1 hk => by
    have hl1 := hperm.length_eq
    simp only [List.length_map] at hl1
    refine (sortHeaders_ok hout (by omega)).mono ?_
    rintro x H2 ⟨hs', hp', hso, hout', f2⟩
    have heq : hs' = sortHs (hdrOf ls) := sortHs_eq (by rw [← hhd]; exact hp'.trans hperm) (hdrOf_nodup ls) (hso.imp fun h => List.not_lt.1 h)
    rw [← heq]
    exact ⟨hout'.slV headR_ok, f1.up f2 (fun x hx => .inr (hk x (by simpa using hx)))⟩)
  rw [hx]
  exact hloop
end Go.Cps
