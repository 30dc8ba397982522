/-
  multipart.NewReader: the state it makes.
  Conditions: the boundary is short.
-/
import Derived.Test.YtfajmapajpfocaaGreatDoorL9
set_option linter.all false
namespace Go.Cps
open Go Go.Proofs

/-- a multipart Reader over a stack of readers, with a boundary -/
structure MRAt (S : Stk) (mr tb : Nat) (m : MRf) (bd : List UInt8) (H : Heap) : Prop where
  hm : H[mr]? = some (.cells m.cells 127 (0, 0))
  hbr : m.br = .pointer (some ⟨S.b, 0, none⟩)
  nl : IsBytes H m.nl [13, 10]
  nld : IsBytes H m.nld ([13, 10, 45, 45] ++ bd)
  dd : IsBytes H m.dd ([45, 45] ++ bd ++ [45, 45])
  dash : IsBytes H m.dash ([45, 45] ++ bd)
  bl : blk m.nl = some tb ∧ blk m.nld = some tb ∧ blk m.dd = some tb ∧ blk m.dash = some tb
  ht : tb ∉ mr :: S.ids
  hmr : mr ∉ S.ids
  hv : blk S.v ≠ some mr
  h0 : mr ≠ 0

theorem MRAt.frm {S : Stk} {mr tb : Nat} {m : MRf} {bd : List UInt8} {H H' : Heap} {X : List Nat} (h : MRAt S mr tb m bd H) (f : Frm X H H') (h1 : mr ∉ X) (h2 : tb ∉ X) : MRAt S mr tb m bd H' :=
  { h with hm := f.get h.hm h1, nl := h.nl.frm f (fun x hx => by rw [h.bl.1] at hx; cases hx; exact h2), nld := h.nld.frm f (fun x hx => by rw [h.bl.2.1] at hx; cases hx; exact h2), dd := h.dd.frm f (fun x hx => by rw [h.bl.2.2.1] at hx; cases hx; exact h2), dash := h.dash.frm f (fun x hx => by rw [h.bl.2.2.2] at hx; cases hx; exact h2) }
theorem MRAt.ids {S : Stk} {mr tb : Nat} {m : MRf} {bd : List UInt8} {H H' : Heap} (h : MRAt S mr tb m bd H) (f : Frm S.ids H H') : MRAt S mr tb m bd H' :=
  h.frm f h.hmr (fun hx => h.ht (List.mem_cons_of_mem _ hx))

theorem fst_cells (x : Value) (h : isOne x = true) : Value.cells x = #[x] := cells_one h

theorem newReader_ok {br : Nat} {e : Addr} {v : Value} {l bd : List UInt8} {H : Heap} (hbr : H[br]? = some (.cells #[v, .int .i64 0, .int .i64 (-1)] 156 (0, 0))) (hv : IsBytes H v l) (hvb : ∀ x, blk v = some x → x ≠ br ∧ x < H.size) (hE : EOFat H (.iface 138 (.pointer (some e))))
    (hb0 : br ≠ 0) (hl : l.length < 2 ^ 62) (hbd : bd.length < 1000) :
    CallsH Tryz.prog 37 #[.iface 128 (.pointer (some ⟨br, 0, none⟩)), strVal bd] H fun x H' => ∃ S s mr tb m, x = .pointer (some ⟨mr, 0, none⟩) ∧ RdAt S s H' ∧ MRAt S mr tb m bd H' ∧ s.rest S = l ∧ s.err = false ∧ m.parts = 0 ∧ m.cur = .pointer none ∧
      S.Et = 138 ∧ S.Ev = .pointer (some e) ∧ Frm [] H H' ∧ (∀ y ∈ mr :: tb :: S.ids, y ≠ br → H.size ≤ y) ∧ S.br = br ∧ S.v = v := by
  have hH0 : 0 < H.size := by obtain ⟨t, f, h⟩ := hE; exact lt_of_some h
  have hbrs := lt_of_some hbr
  apply s37
  have e1 : strV .add (.string ⟨#[13, 10, 45, 45]⟩) (strVal bd) = some (strVal ([13, 10, 45, 45] ++ bd)) := strV_add (a := [13, 10, 45, 45]) (b := bd) (by simp; omega)
  have e2 : strV .add (strVal ([13, 10, 45, 45] ++ bd)) (.string ⟨#[45, 45]⟩) = some (strVal ([13, 10, 45, 45] ++ bd ++ [45, 45])) := strV_add (a := [13, 10, 45, 45] ++ bd) (b := [45, 45]) (by simp; omega)
  simp only [c37, e1, e2, Get_some]
  refine toBytes_of fun c H1 hc hr1 f1 z1 => ?_
  have e3 : fillV #[(0, 1), (1, 1)] #[.nilIface, .nilIface] [(0, .iface 128 (.pointer (some ⟨br, 0, none⟩)))] = some #[.iface 128 (.pointer (some ⟨br, 0, none⟩)), .nilIface] := by
    rw [fillV_cons rfl rfl (by simp), fillV_nil]; rfl
  simp only [e3, Option.map_some, Get_some, New, Value.cells]
  have hr2 : Row (H1.push (.cells #[.iface 128 (.pointer (some ⟨br, 0, none⟩)), .nilIface] 125 (0, 0))) H.size ([13, 10, 45, 45] ++ bd ++ [45, 45]) := hr1.frm (Frm.push [] _ _) (by simp) (by omega)
  generalize hH2 : H1.push (.cells #[.iface 128 (.pointer (some ⟨br, 0, none⟩)), .nilIface] 125 (0, 0)) = H2 at *
  have f2 : Frm [] H1 H2 := by rw [← hH2]; exact Frm.push _ _ _
  have z2 : H2.size = H.size + 2 := by rw [← hH2]; simp; omega
  have hst2 : H2[H1.size]? = some (.cells #[.iface 128 (.pointer (some ⟨br, 0, none⟩)), .nilIface] 125 (0, 0)) := by rw [← hH2]; exact push_same _ _
  refine newSize_ok.mono ?_
  rintro x H3 ⟨b, bf, rfl, hb1, hbf1, hne, hb, hbf, f3⟩
  have hlen : ([13, 10, 45, 45] ++ bd ++ [45, 45]).length = bd.length + 6 := by simp
  rw [hlen] at hc
  rw [hlen]
  have w1 : IntKind.i64.wrap (((bd.length + 6 : Nat) : Int) - 2) = ((bd.length + 4 : Nat) : Int) := by rw [wrap_i64 (by omega) (by omega)]; omega
  have g1 : sliceV 1 (.slice (some ⟨H.size, 0, none⟩) (bd.length + 6) c) none (some (.int .i64 2)) none = some (.slice (some ⟨H.size, 0, none⟩) 2 c) := sliceV_hi (hi := 2) (by omega) .i64
  have g2 : sliceV 1 (.slice (some ⟨H.size, 0, none⟩) (bd.length + 6) c) none (some (.int .i64 ((bd.length + 4 : Nat) : Int))) none = some (.slice (some ⟨H.size, 0, none⟩) (bd.length + 4) c) := sliceV_hi (by omega) .i64
  have g3 : sliceV 1 (.slice (some ⟨H.size, 0, none⟩) (bd.length + 6) c) (some (.int .i64 2)) none none = some (.slice (some ⟨H.size, 2, none⟩) (bd.length + 4) (c - 2)) := by
    have := sliceV_lo (a := some ⟨H.size, 0, none⟩) (n := bd.length + 6) (c := c) (size := 1) (lo := 2) (by omega) .i64
    rw [if_neg (by omega)] at this
    simpa using this
  have g4 : sliceV 1 (.slice (some ⟨H.size, 0, none⟩) (bd.length + 6) c) (some (.int .i64 2)) (some (.int .i64 ((bd.length + 4 : Nat) : Int))) none = some (.slice (some ⟨H.size, 2, none⟩) (bd.length + 2) (c - 2)) := by
    have := sliceV_of (a := some ⟨H.size, 0, none⟩) (n := bd.length + 6) (c := c) (size := 1) (lo := 2) (hi := bd.length + 4) (by omega) (by omega) .i64 .i64
    rw [if_neg (by omega)] at this
    simpa using this
  have e4 : fillV #[(0, 1), (1, 1), (2, 1), (3, 1), (4, 1), (5, 1), (6, 1), (7, 1)] #[(.pointer none), (.string ⟨#[]⟩), (.pointer none), (.int .i64 0), (.slice none 0 0), (.slice none 0 0), (.slice none 0 0), (.slice none 0 0)]
      [(0, .pointer (some ⟨b, 0, none⟩)), (4, .slice (some ⟨H.size, 0, none⟩) 2 c), (5, .slice (some ⟨H.size, 0, none⟩) (bd.length + 4) c), (6, .slice (some ⟨H.size, 2, none⟩) (bd.length + 4) (c - 2)), (7, .slice (some ⟨H.size, 2, none⟩) (bd.length + 2) (c - 2))] =
      some #[.pointer (some ⟨b, 0, none⟩), (.string ⟨#[]⟩), (.pointer none), (.int .i64 0), .slice (some ⟨H.size, 0, none⟩) 2 c, .slice (some ⟨H.size, 0, none⟩) (bd.length + 4) c, .slice (some ⟨H.size, 2, none⟩) (bd.length + 4) (c - 2), .slice (some ⟨H.size, 2, none⟩) (bd.length + 2) (c - 2)] := by
    rw [fillV_cons rfl rfl (by simp), fillV_cons rfl rfl (by simp), fillV_cons rfl rfl (by simp), fillV_cons rfl rfl (by simp), fillV_cons rfl rfl (by simp), fillV_nil]; rfl
  simp only [Fld_ptr, add_mk, Nat.zero_add, List.getElem?_toArray, List.getElem?_cons_succ, List.getElem?_cons_zero, Get_some, Br_true, Br_false, nth_zero, nth_one, nth_two, extractV_tuple, fieldAddrV_ptr, nilV_ptr, load1V_ptr, pickV_bool, unV_not, lenV_slice, capV_slice, arithV_add, arithV_sub, arithV_eql, arithV_neq, arithV_lss, arithV_leq, arithV_gtr, arithV_geq, intConvV_int, w1, g1, g2, g3, g4, e4, Option.map_some, Value.cells, New]
  have f4 : Frm [] H3 (H3.push (.cells #[.pointer (some ⟨b, 0, none⟩), (.string ⟨#[]⟩), (.pointer none), (.int .i64 0), .slice (some ⟨H.size, 0, none⟩) 2 c, .slice (some ⟨H.size, 0, none⟩) (bd.length + 4) c, .slice (some ⟨H.size, 2, none⟩) (bd.length + 4) (c - 2), .slice (some ⟨H.size, 2, none⟩) (bd.length + 2) (c - 2)] 127 (0, 0))) := Frm.push _ _ _
  have hm4 := push_same H3 (.cells #[.pointer (some ⟨b, 0, none⟩), (.string ⟨#[]⟩), (.pointer none), (.int .i64 0), .slice (some ⟨H.size, 0, none⟩) 2 c, .slice (some ⟨H.size, 0, none⟩) (bd.length + 4) c, .slice (some ⟨H.size, 2, none⟩) (bd.length + 4) (c - 2), .slice (some ⟨H.size, 2, none⟩) (bd.length + 2) (c - 2)] 127 (0, 0))
  generalize hH4 : H3.push _ = H4 at *
  have f : Frm [] H H4 := ((f1.trans f2).trans f3).trans f4
  have hr4 : Row H4 H.size ([13, 10, 45, 45] ++ bd ++ [45, 45]) := hr2.frm (f3.trans f4) (by simp) (by omega)
  have z3 : H2.size ≤ H3.size := f3.size
  have sb := lt_of_some hb
  have sbf := lt_of_some hbf
  have hd2 : ([13, 10, 45, 45] ++ bd ++ [45, 45]).drop 2 = [45, 45] ++ bd ++ [45, 45] := by simp
  refine ⟨⟨b, bf, H1.size, br, 153, 5, 125, 156, v, l, 138, .pointer (some e)⟩, ⟨zbuf 4096, 0, 0, 0, false, false, -1, -1, .int .i64 (-1)⟩, H3.size, H.size, ⟨.pointer (some ⟨b, 0, none⟩), .string ⟨#[]⟩, .pointer none, 0, .slice (some ⟨H.size, 0, none⟩) 2 c, .slice (some ⟨H.size, 0, none⟩) (bd.length + 4) c, .slice (some ⟨H.size, 2, none⟩) (bd.length + 4) (c - 2), .slice (some ⟨H.size, 2, none⟩) (bd.length + 2) (c - 2)⟩,
    rfl, ?_, ?_, ?_, rfl, rfl, rfl, rfl, rfl, f, ?_, rfl, rfl⟩
  · refine { hb := f4.get hb (by simp), hbf := f4.get hbf (by simp), hst := (f3.trans f4).get hst2 (by simp), hbr := f.get hbr (by simp), hv := hv.frm f (by simp), hE := hE.frm f (by simp), blen := zbuf_length _, rw := Nat.le_refl _, w4 := by simp, pl := Nat.zero_le _, he := (fun h => by cases h), hs := (fun h => by cases h), small := hl, d0 := ?_, d1 := ?_, d2 := ?_ }
    · simp [Stk.ids]; omega
    · simp [Stk.ids]; omega
    · intro x hx
      have := hvb x hx
      simp [Stk.ids]; omega
  · refine { hm := hm4, hbr := rfl, nl := ?_, nld := ?_, dd := ?_, dash := ?_, bl := ⟨rfl, rfl, rfl, rfl⟩, ht := ?_, hmr := ?_, hv := ?_, h0 := ?_ }
    · have := hr4.bytes (o := 0) (n := 2) (c := c) (by rw [hlen]; omega) (by omega)
      simpa using this
    · have := hr4.bytes (o := 0) (n := bd.length + 4) (c := c) (by rw [hlen]; omega) (by omega)
      rw [List.drop_zero, List.take_left' (by simp)] at this
      exact this
    · have := hr4.bytes (o := 2) (n := bd.length + 4) (c := c - 2) (by rw [hlen]; omega) (by omega)
      rw [hd2, List.take_of_length_le (by simp)] at this
      exact this
    · have := hr4.bytes (o := 2) (n := bd.length + 2) (c := c - 2) (by rw [hlen]; omega) (by omega)
      rw [hd2, List.take_left' (by simp)] at this
      exact this
    · simp [Stk.ids]; omega
    · simp [Stk.ids]; omega
    · intro hx
      have := hvb _ hx
      omega
    · omega
  · simp [St.rest]
  · intro y hy hyb
    simp [Stk.ids] at hy
    omega
end Go.Cps
