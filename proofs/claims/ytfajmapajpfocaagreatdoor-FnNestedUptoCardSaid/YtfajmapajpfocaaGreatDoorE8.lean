/-
  A part of the proof (its texts: L9, L10, L11): each text says below what it proves.
  Conditions: each contract's own.
-/
import Derived.Test.YtfajmapajpfocaaGreatDoorE7
set_option linter.all false
/-
  A multipart Reader made over bytes: source, NewReader and what they call.
  Conditions: the bytes are fewer than 2^40.
-/
namespace Go.Cps
open Go Go.Proofs

def strVal (l : List UInt8) : Value := .string ⟨l.toArray⟩
theorem bstr_append (a b : List UInt8) : ((⟨a.toArray⟩ : ByteArray) ++ ⟨b.toArray⟩) = ⟨(a ++ b).toArray⟩ := by
  apply ByteArray.ext
  rw [ByteArray.data_append]
  simp
theorem bstr_size (a : List UInt8) : (⟨a.toArray⟩ : ByteArray).size = a.length := by simp [ByteArray.size]
theorem strV_add {a b : List UInt8} (h : a.length + b.length < 2 ^ 62) : strV .add (strVal a) (strVal b) = some (strVal (a ++ b)) := by
  simp only [strVal, strV, bstr_size, bstr_append]
  rw [if_pos (by omega)]

/-- a block whose first cells are these bytes -/
def Row (H : Heap) (b : Nat) (l : List UInt8) : Prop := ∀ j, j < l.length → cellH H ⟨b, j, none⟩ = (l[j]?).map byteV
theorem Row.bytes {H : Heap} {b : Nat} {l : List UInt8} (h : Row H b l) {o n c : Nat} (hn : o + n ≤ l.length) (hc : n ≤ c) : IsBytes H (.slice (some ⟨b, o, none⟩) n c) ((l.drop o).take n) := by
  have hl : ((l.drop o).take n).length = n := by simp; omega
  refine .inl ⟨b, o, c, by rw [hl], by rw [hl]; exact hc, fun j hj => ?_⟩
  rw [hl] at hj
  rw [h _ (by omega), List.getElem?_take, if_pos hj, List.getElem?_drop]
theorem Row.frm {H H' : Heap} {b : Nat} {l : List UInt8} {X : List Nat} (h : Row H b l) (f : Frm X H H') (hb : b ∉ X) (hs : b < H.size) : Row H' b l := by
  intro j hj
  rw [← h j hj]
  simp only [cellH, f.same b hs hb]
theorem Row.of {H : Heap} {b : Nat} {l : List UInt8} {z : Array Value} {t : TypeId} {f : Nat × Nat} (h : H[b]? = some (.cells ((l.map byteV).toArray ++ z) t f)) : Row H b l := by
  intro j hj
  rw [cellH_of h, Array.getElem?_append_left (by simpa using hj)]
  simp

theorem toBytes_of {l : List UInt8} {e : TypeId} {H : Heap} {K : Value → Heap → Prop} (h : ∀ c H', l.length ≤ c → Row H' H.size l → Frm [] H H' → H'.size = H.size + 1 → K (.slice (some ⟨H.size, 0, none⟩) l.length c) H') : ToBytes e (strVal l) H K := by
  refine ⟨_, rfl, fun c hc => ?_⟩
  rw [bstr_size] at hc ⊢
  refine h c _ hc (Row.of (z := Array.replicate (c - l.length) (.int .u8 0)) (t := e) (f := (c, c + 1)) ?_) (Frm.push _ _ _) (by simp)
  rw [push_same]
  congr 3
  simp [byteV]

theorem nextcap0 (n : Nat) : Builtin.nextslicecap n 0 = n := by
  unfold Builtin.nextslicecap
  split
  · rfl
  · simp_all

/-- append of bytes to an empty slice without room -/
theorem append_empty {b : Option Addr} {x : Value} {l : List UInt8} {H : Heap} {K : Value → Heap → Prop} (hx : IsBytes H x l) (hl : l.length < 2 ^ 48) (h0 : l = [] → K (.slice b 0 0) H)
    (h : ∀ c H', l.length ≤ c → Row H' H.size l → Frm [] H H' → H'.size = H.size + 1 → (∃ z, H'[H.size]? = some (.cells ((l.map byteV).toArray ++ z) 5 (0, 0)) ∧ z.size = c - l.length) → K (.slice (some ⟨H.size, 0, none⟩) l.length c) H') :
    Append 5 1 1 #[.int .u8 0] (.slice b 0 0) x H K := by
  obtain ⟨h1, h2⟩ := hx.elems (m := l.length) (Nat.le_refl _)
  rw [List.take_length] at h1
  refine ⟨b, 0, 0, l.length, _, rfl, h2, h1, ?_⟩
  by_cases hz : l = []
  · subst hz
    refine .inl ⟨by simp, ?_⟩
    cases b with
    | none => exact ⟨_, rfl, h0 rfl⟩
    | some a => exact ⟨_, rfl, h0 rfl⟩
  · have : 0 < l.length := List.length_pos_iff.2 hz
    refine .inr ⟨by omega, by omega, by rw [nextcap0]; omega, [], ?_, fun c hc => ?_⟩
    · cases b <;> rfl
    · simp only [Nat.zero_add] at hc ⊢
      refine h c _ hc (Row.of (z := zeros #[.int .u8 0] (c - l.length)) (t := 5) (f := (0, 0)) (by rw [push_same]; simp)) (Frm.push _ _ _) (by simp) ⟨zeros #[.int .u8 0] (c - l.length), by rw [push_same]; simp, ?_⟩
      simp [zeros, Builtin.zeroCells]

theorem cells_one {v : Value} (h : isOne v = true) : v.cells = #[v] := by cases v <;> first | rfl | simp [isOne] at h
theorem fill_cons {place : Nat → Option (Nat × Nat)} {cs : Array Value} {i off : Nat} {v : Value} {r : List (Nat × Value)} (hv : isOne v = true) (hp : place i = some (off, 1)) (ho : off < cs.size) : Instr.fill place cs ((i, v) :: r) = Instr.fill place (cs.setIfInBounds off v) r := by
  have h1 : ¬ (cs.size < off + 1) := by omega
  simp [Instr.fill, hp, cells_one hv, h1]
theorem fillV_cons {ps : Array (Nat × Nat)} {cs : Array Value} {i off : Nat} {v : Value} {r : List (Nat × Value)} (hv : isOne v = true) (hp : ps[i]? = some (off, 1)) (ho : off < cs.size) : fillV ps cs ((i, v) :: r) = fillV ps (cs.setIfInBounds off v) r := fill_cons hv hp ho
theorem fillV_nil {ps : Array (Nat × Nat)} {cs : Array Value} : fillV ps cs [] = some cs := rfl

theorem newReaderB_ok {v : Value} {H : Heap} (hv : isOne v = true) : CallsH Tryz.prog 70 #[v] H fun x H' => x = .pointer (some ⟨H.size, 0, none⟩) ∧ H' = H.push (.cells #[v, .int .i64 0, .int .i64 (-1)] 156 (0, 0)) := by
  apply s70
  have e : fillV #[(0, 1), (1, 1), (2, 1)] #[(.slice none 0 0), (.int .i64 0), (.int .i64 0)] [(0, v), (1, (.int .i64 0)), (2, (.int .i64 (-1)))] = some #[v, .int .i64 0, .int .i64 (-1)] := by
    rw [fillV_cons hv rfl (by simp), fillV_cons rfl rfl (by simp), fillV_cons rfl rfl (by simp), fillV_nil]
    rfl
  simp only [c70, e, Option.map_some, Get_some, New, Value.cells, and_self]

theorem source_ok {a : Value} {l : List UInt8} {H : Heap} (ha : IsBytes H a l) (hl : l.length < 2 ^ 40) :
    CallsH Tryz.prog 38 #[a] H fun x H' => ∃ br v, x = .iface 128 (.pointer (some ⟨br, 0, none⟩)) ∧ H'[br]? = some (.cells #[v, .int .i64 0, .int .i64 (-1)] 156 (0, 0)) ∧ IsBytes H' v l ∧ Frm [] H H' ∧ H.size ≤ br ∧ (∀ x, blk v = some x → H.size ≤ x ∧ x ≠ br ∧ x < H'.size) ∧ br < H'.size := by
  apply s38
  have e : Instr.fill (fun j => some (j * 1, 1)) ((Array.range (0 * 1)).map ((#[(.int .u8 0)] : Array Value)[· % 1]!)) [] = some #[] := by kernel_rfl
  simp only [c38, e, Get_some, NewSl]
  have f0 : Frm [] H (H.push (.cells #[] 5 (0, 0))) := Frm.push _ _ _
  refine append_empty (ha.frm f0 (by simp)) (by omega) (fun hz => ?_) (fun c H' hc hr f z _ => ?_)
  · refine (newReaderB_ok rfl).mono ?_
    rintro x H' ⟨rfl, rfl⟩
    refine ⟨_, _, rfl, push_same _ _, .inl ⟨H.size, 0, 0, by rw [hz]; rfl, by rw [hz]; simp, fun j hj => by rw [hz] at hj; simp at hj⟩, f0.trans (Frm.push _ _ _), by simp, ?_, by simp⟩
    intro x hx
    simp [blk] at hx
    simp; omega
  · refine (newReaderB_ok rfl).mono ?_
    rintro x H'' ⟨rfl, rfl⟩
    have hb := (hr.frm (Frm.push [] _ (.cells #[.slice (some ⟨(H.push (.cells #[] 5 (0, 0))).size, 0, none⟩) l.length c, .int .i64 0, .int .i64 (-1)] 156 (0, 0))) (by simp) (by omega)).bytes (o := 0) (n := l.length) (c := c) (by omega) hc
    refine ⟨_, _, rfl, push_same _ _, by simpa using hb, (f0.trans f).trans (Frm.push _ _ _), by simp at z; omega, ?_, by simp⟩
    intro x hx
    simp only [blk, Option.some.injEq, Array.size_push] at hx z ⊢
    omega

/- the bufio Reader -/
theorem reset_ok {b : Nat} {cs : Array Value} {t : TypeId} {u r : Value} {H : Heap} (h : H[b]? = some (.cells cs t (0, 0))) (hc : cs.size = 7) (hu : isOne u = true) (hr : isOne r = true) :
    CallsH Tryz.prog 91 #[.pointer (some ⟨b, 0, none⟩), u, r] H fun x H' => H'[b]? = some (.cells #[u, r, .int .i64 0, .int .i64 0, .nilIface, .int .i64 (-1), .int .i64 (-1)] t (0, 0)) ∧ Frm [b] H H' ∧ H'.size = H.size := by
  apply s91
  have e : fillV #[(0, 1), (1, 1), (2, 1), (3, 1), (4, 1), (5, 1), (6, 1)] #[(.slice none 0 0), .nilIface, (.int .i64 0), (.int .i64 0), .nilIface, (.int .i64 0), (.int .i64 0)] [(0, u), (1, r), (5, (.int .i64 (-1))), (6, (.int .i64 (-1)))] = some #[u, r, .int .i64 0, .int .i64 0, .nilIface, .int .i64 (-1), .int .i64 (-1)] := by
    rw [fillV_cons hu rfl (by decide), fillV_cons hr rfl (by simp), fillV_cons rfl rfl (by simp), fillV_cons rfl rfl (by simp), fillV_nil]
    rfl
  have hst := stores_upd [u, r, .int .i64 0, .int .i64 0, .nilIface, .int .i64 (-1), .int .i64 (-1)] H b 0 0 cs t h (by simp [hc]) (by
    intro v hv
    simp only [List.mem_cons, List.not_mem_nil, or_false] at hv
    rcases hv with rfl | rfl | rfl | rfl | rfl | rfl | rfl <;> first | assumption | rfl)
  have hp : putAt cs (0 + 0) [u, r, .int .i64 0, .int .i64 0, .nilIface, .int .i64 (-1), .int .i64 (-1)] = #[u, r, .int .i64 0, .int .i64 0, .nilIface, .int .i64 (-1), .int .i64 (-1)] := by
    apply Array.ext_getElem?
    intro i
    rw [putAt_get _ _ _ _ (by simp [hc])]
    split
    · simp
    · rename_i hi
      simp at hi
      rw [Array.getElem?_eq_none (by omega), Array.getElem?_eq_none (by simp; omega)]
  rw [hp] at hst
  have hs : storeNV 7 (.pointer (some ⟨b, 0, none⟩)) (.agg #[u, r, .int .i64 0, .int .i64 0, .nilIface, .int .i64 (-1), .int .i64 (-1)]) H = some (upd H b (.cells #[u, r, .int .i64 0, .int .i64 0, .nilIface, .int .i64 (-1), .int .i64 (-1)] t (0, 0))) := by
    exact hst
  simp only [c91, e, Option.map_some, Fld_ptr, add_mk, Nat.zero_add, List.getElem?_toArray, List.getElem?_cons_succ, List.getElem?_cons_zero, Get_some, Br_true, Br_false, nth_zero, nth_one, nth_two, extractV_tuple, fieldAddrV_ptr, nilV_ptr, load1V_ptr, pickV_bool, unV_not, lenV_slice, capV_slice, hs]
  exact ⟨upd_same (lt_of_some h), Frm.upd _ (by simp), by simp⟩

theorem zeros_eq (n : Nat) : ((Array.range (n * 1)).map ((#[(.int .u8 0)] : Array Value)[· % 1]!)) = ((List.replicate n (0 : UInt8)).map byteV).toArray := by
  apply Array.ext_getElem?
  intro i
  by_cases hi : i < n
  · simp [hi, Nat.mod_one, byteV]
  · simp [hi]

def zbuf (n : Nat) : List UInt8 := List.replicate n 0
theorem zbuf_length (n : Nat) : (zbuf n).length = n := by simp [zbuf]

theorem makeBytes_of {n : Nat} {H : Heap} {K : Value → Heap → Prop} (hn : n < 2 ^ 47) (h : K (.slice (some ⟨H.size, 0, none⟩) n n) (H.push (.cells ((zbuf n).map byteV).toArray 5 (0, 0)))) :
    MakeSlice 5 1 1 #[.int .u8 0] (.int .i64 n) (.int .i64 n) H K := by
  refine ⟨.i64, .i64, n, n, rfl, rfl, Nat.le_refl _, by omega, by omega, ?_⟩
  have e1 : (#[(.int .u8 0)] : Array Value).size = 1 := rfl
  rw [e1, zeros_eq n]
  exact h

theorem newSize_ok {r : Value} {H : Heap} :
    CallsH Tryz.prog 69 #[.iface 123 r, .int .i64 4096] H fun x H' => ∃ b bf, x = .pointer (some ⟨b, 0, none⟩) ∧ H.size ≤ b ∧ H.size ≤ bf ∧ b ≠ bf ∧
      H'[b]? = some (.cells #[.slice (some ⟨bf, 0, none⟩) 4096 4096, .iface 123 r, .int .i64 0, .int .i64 0, .nilIface, .int .i64 (-1), .int .i64 (-1)] 153 (0, 0)) ∧
      H'[bf]? = some (.cells ((zbuf 4096).map byteV).toArray 5 (0, 0)) ∧ Frm [] H H' := by
  apply s69
  unfold c69
  rw [tassert]
  have hmax : maxV (.int .i64 4096) (.int .i64 16) = some (.int .i64 ((4096 : Nat) : Int)) := rfl
  simp only [Fld_ptr, add_mk, Nat.zero_add, List.getElem?_toArray, List.getElem?_cons_succ, List.getElem?_cons_zero, Get_some, Br_true, Br_false, nth_zero, nth_one, nth_two, extractV_tuple, fieldAddrV_ptr, nilV_ptr, load1V_ptr, pickV_bool, unV_not, lenV_slice, capV_slice]
  refine Join_direct ?_
  simp only [Fld_ptr, add_mk, Nat.zero_add, List.getElem?_toArray, List.getElem?_cons_succ, List.getElem?_cons_zero, Get_some, Br_true, Br_false, nth_zero, nth_one, nth_two, extractV_tuple, fieldAddrV_ptr, nilV_ptr, load1V_ptr, pickV_bool, unV_not, lenV_slice, capV_slice, Bool.false_eq_true, if_false, hmax, New]
  refine makeBytes_of (n := 4096) (by omega) ?_
  refine (reset_ok (b := H.size) (cs := #[(.slice none 0 0), .nilIface, (.int .i64 0), (.int .i64 0), .nilIface, (.int .i64 0), (.int .i64 0)]) (t := 153) (push_old (push_same _ _)) rfl rfl rfl).mono ?_
  rintro x H' ⟨hb, f, z⟩
  refine ⟨H.size, _, rfl, Nat.le_refl _, ?_, ?_, hb, f.get (push_same _ _) (by simp), ?_⟩
  · simp
  · simp
  · refine ⟨by rw [z]; simp; omega, fun k hk _ => ?_⟩
    rw [f.same k (by simp; omega) (by simp; omega), Array.getElem?_push, if_neg (by simp; omega), Array.getElem?_push, if_neg (by omega)]
end Go.Cps

/-
  multipart.NewReader: the state it makes.
  Conditions: the boundary is short.
-/
namespace Go.Cps
open Go Go.Proofs

/-- a multipart Reader over a stack of readers, with a boundary -/
structure MRAt (S : Stk) (mr tb : Nat) (m : MRf) (bd : List UInt8) (H : Heap) : Prop where
  hm : H[mr]? = some (.cells m.cells 127 (0, 0))
  hbr : m.br = .pointer (some ⟨S.b, 0, none⟩)
  nl : IsBytes H m.nl [13, 10]
  nld : IsBytes H m.nld ([13, 10, 45, 45] ++ bd)
  dd : IsBytes H m.dd ([45, 45] ++ bd ++ [45, 45])
  dash : IsBytes H m.dash ([45, 45] ++ bd)
  bl : blk m.nl = some tb ∧ blk m.nld = some tb ∧ blk m.dd = some tb ∧ blk m.dash = some tb
  ht : tb ∉ mr :: S.ids
  hmr : mr ∉ S.ids
  hv : blk S.v ≠ some mr
  h0 : mr ≠ 0

theorem MRAt.frm {S : Stk} {mr tb : Nat} {m : MRf} {bd : List UInt8} {H H' : Heap} {X : List Nat} (h : MRAt S mr tb m bd H) (f : Frm X H H') (h1 : mr ∉ X) (h2 : tb ∉ X) : MRAt S mr tb m bd H' :=
  { h with hm := f.get h.hm h1, nl := h.nl.frm f (fun x hx => by rw [h.bl.1] at hx; cases hx; exact h2), nld := h.nld.frm f (fun x hx => by rw [h.bl.2.1] at hx; cases hx; exact h2), dd := h.dd.frm f (fun x hx => by rw [h.bl.2.2.1] at hx; cases hx; exact h2), dash := h.dash.frm f (fun x hx => by rw [h.bl.2.2.2] at hx; cases hx; exact h2) }
theorem MRAt.ids {S : Stk} {mr tb : Nat} {m : MRf} {bd : List UInt8} {H H' : Heap} (h : MRAt S mr tb m bd H) (f : Frm S.ids H H') : MRAt S mr tb m bd H' :=
  h.frm f h.hmr (fun hx => h.ht (List.mem_cons_of_mem _ hx))

theorem newReader_ok {br : Nat} {e : Addr} {v : Value} {l bd : List UInt8} {H : Heap} (hbr : H[br]? = some (.cells #[v, .int .i64 0, .int .i64 (-1)] 156 (0, 0))) (hv : IsBytes H v l) (hvb : ∀ x, blk v = some x → x ≠ br ∧ x < H.size) (hE : EOFat H (.iface 138 (.pointer (some e))))
    (hb0 : br ≠ 0) (hl : l.length < 2 ^ 62) (hbd : bd.length < 1000) :
    CallsH Tryz.prog 37 #[.iface 128 (.pointer (some ⟨br, 0, none⟩)), strVal bd] H fun x H' => ∃ S s mr tb m, x = .pointer (some ⟨mr, 0, none⟩) ∧ RdAt S s H' ∧ MRAt S mr tb m bd H' ∧ s.rest S = l ∧ s.err = false ∧ m.parts = 0 ∧ m.cur = .pointer none ∧
      S.Et = 138 ∧ S.Ev = .pointer (some e) ∧ Frm [] H H' ∧ (∀ y ∈ mr :: tb :: S.ids, y ≠ br → H.size ≤ y) ∧ S.br = br ∧ S.v = v ∧ S.tbf = 5 ∧ tb < H'.size := by
  have hH0 : 0 < H.size := by obtain ⟨t, f, h⟩ := hE; exact lt_of_some h
  have hbrs := lt_of_some hbr
  apply s37
  have e1 : strV .add (.string ⟨#[13, 10, 45, 45]⟩) (strVal bd) = some (strVal ([13, 10, 45, 45] ++ bd)) := strV_add (a := [13, 10, 45, 45]) (b := bd) (by simp; omega)
  have e2 : strV .add (strVal ([13, 10, 45, 45] ++ bd)) (.string ⟨#[45, 45]⟩) = some (strVal ([13, 10, 45, 45] ++ bd ++ [45, 45])) := strV_add (a := [13, 10, 45, 45] ++ bd) (b := [45, 45]) (by simp; omega)
  simp only [c37, e1, e2, Get_some]
  refine toBytes_of fun c H1 hc hr1 f1 z1 => ?_
  have e3 : fillV #[(0, 1), (1, 1)] #[.nilIface, .nilIface] [(0, .iface 128 (.pointer (some ⟨br, 0, none⟩)))] = some #[.iface 128 (.pointer (some ⟨br, 0, none⟩)), .nilIface] := by
    rw [fillV_cons rfl rfl (by simp), fillV_nil]; rfl
  simp only [e3, Option.map_some, Get_some, New, Value.cells]
  have hr2 : Row (H1.push (.cells #[.iface 128 (.pointer (some ⟨br, 0, none⟩)), .nilIface] 125 (0, 0))) H.size ([13, 10, 45, 45] ++ bd ++ [45, 45]) := hr1.frm (Frm.push [] _ _) (by simp) (by omega)
  generalize hH2 : H1.push (.cells #[.iface 128 (.pointer (some ⟨br, 0, none⟩)), .nilIface] 125 (0, 0)) = H2 at *
  have f2 : Frm [] H1 H2 := by rw [← hH2]; exact Frm.push _ _ _
  have z2 : H2.size = H.size + 2 := by rw [← hH2]; simp; omega
  have hst2 : H2[H1.size]? = some (.cells #[.iface 128 (.pointer (some ⟨br, 0, none⟩)), .nilIface] 125 (0, 0)) := by rw [← hH2]; exact push_same _ _
  refine newSize_ok.mono ?_
  rintro x H3 ⟨b, bf, rfl, hb1, hbf1, hne, hb, hbf, f3⟩
  have hlen : ([13, 10, 45, 45] ++ bd ++ [45, 45]).length = bd.length + 6 := by simp
  rw [hlen] at hc
  rw [hlen]
  have w1 : IntKind.i64.wrap (((bd.length + 6 : Nat) : Int) - 2) = ((bd.length + 4 : Nat) : Int) := by rw [wrap_i64 (by omega) (by omega)]; omega
  have g1 : sliceV 1 (.slice (some ⟨H.size, 0, none⟩) (bd.length + 6) c) none (some (.int .i64 2)) none = some (.slice (some ⟨H.size, 0, none⟩) 2 c) := sliceV_hi (hi := 2) (by omega) .i64
  have g2 : sliceV 1 (.slice (some ⟨H.size, 0, none⟩) (bd.length + 6) c) none (some (.int .i64 ((bd.length + 4 : Nat) : Int))) none = some (.slice (some ⟨H.size, 0, none⟩) (bd.length + 4) c) := sliceV_hi (by omega) .i64
  have g3 : sliceV 1 (.slice (some ⟨H.size, 0, none⟩) (bd.length + 6) c) (some (.int .i64 2)) none none = some (.slice (some ⟨H.size, 2, none⟩) (bd.length + 4) (c - 2)) := by
    have := sliceV_lo (a := some ⟨H.size, 0, none⟩) (n := bd.length + 6) (c := c) (size := 1) (lo := 2) (by omega) .i64
    rw [if_neg (by omega)] at this
    simpa using this
  have g4 : sliceV 1 (.slice (some ⟨H.size, 0, none⟩) (bd.length + 6) c) (some (.int .i64 2)) (some (.int .i64 ((bd.length + 4 : Nat) : Int))) none = some (.slice (some ⟨H.size, 2, none⟩) (bd.length + 2) (c - 2)) := by
    have := sliceV_of (a := some ⟨H.size, 0, none⟩) (n := bd.length + 6) (c := c) (size := 1) (lo := 2) (hi := bd.length + 4) (by omega) (by omega) .i64 .i64
    rw [if_neg (by omega)] at this
    simpa using this
  have e4 : fillV #[(0, 1), (1, 1), (2, 1), (3, 1), (4, 1), (5, 1), (6, 1), (7, 1)] #[(.pointer none), (.string ⟨#[]⟩), (.pointer none), (.int .i64 0), (.slice none 0 0), (.slice none 0 0), (.slice none 0 0), (.slice none 0 0)]
      [(0, .pointer (some ⟨b, 0, none⟩)), (4, .slice (some ⟨H.size, 0, none⟩) 2 c), (5, .slice (some ⟨H.size, 0, none⟩) (bd.length + 4) c), (6, .slice (some ⟨H.size, 2, none⟩) (bd.length + 4) (c - 2)), (7, .slice (some ⟨H.size, 2, none⟩) (bd.length + 2) (c - 2))] =
      some #[.pointer (some ⟨b, 0, none⟩), (.string ⟨#[]⟩), (.pointer none), (.int .i64 0), .slice (some ⟨H.size, 0, none⟩) 2 c, .slice (some ⟨H.size, 0, none⟩) (bd.length + 4) c, .slice (some ⟨H.size, 2, none⟩) (bd.length + 4) (c - 2), .slice (some ⟨H.size, 2, none⟩) (bd.length + 2) (c - 2)] := by
    rw [fillV_cons rfl rfl (by simp), fillV_cons rfl rfl (by simp), fillV_cons rfl rfl (by simp), fillV_cons rfl rfl (by simp), fillV_cons rfl rfl (by simp), fillV_nil]; rfl
  simp only [Fld_ptr, add_mk, Nat.zero_add, List.getElem?_toArray, List.getElem?_cons_succ, List.getElem?_cons_zero, Get_some, Br_true, Br_false, nth_zero, nth_one, nth_two, extractV_tuple, fieldAddrV_ptr, nilV_ptr, load1V_ptr, pickV_bool, unV_not, lenV_slice, capV_slice, arithV_add, arithV_sub, arithV_eql, arithV_neq, arithV_lss, arithV_leq, arithV_gtr, arithV_geq, intConvV_int, w1, g1, g2, g3, g4, e4, Option.map_some, Value.cells, New]
  have f4 : Frm [] H3 (H3.push (.cells #[.pointer (some ⟨b, 0, none⟩), (.string ⟨#[]⟩), (.pointer none), (.int .i64 0), .slice (some ⟨H.size, 0, none⟩) 2 c, .slice (some ⟨H.size, 0, none⟩) (bd.length + 4) c, .slice (some ⟨H.size, 2, none⟩) (bd.length + 4) (c - 2), .slice (some ⟨H.size, 2, none⟩) (bd.length + 2) (c - 2)] 127 (0, 0))) := Frm.push _ _ _
  have hm4 := push_same H3 (.cells #[.pointer (some ⟨b, 0, none⟩), (.string ⟨#[]⟩), (.pointer none), (.int .i64 0), .slice (some ⟨H.size, 0, none⟩) 2 c, .slice (some ⟨H.size, 0, none⟩) (bd.length + 4) c, .slice (some ⟨H.size, 2, none⟩) (bd.length + 4) (c - 2), .slice (some ⟨H.size, 2, none⟩) (bd.length + 2) (c - 2)] 127 (0, 0))
  generalize hH4 : H3.push _ = H4 at *
  have f : Frm [] H H4 := ((f1.trans f2).trans f3).trans f4
  have hr4 : Row H4 H.size ([13, 10, 45, 45] ++ bd ++ [45, 45]) := hr2.frm (f3.trans f4) (by simp) (by omega)
  have z3 : H2.size ≤ H3.size := f3.size
  have sb := lt_of_some hb
  have sbf := lt_of_some hbf
  have hd2 : ([13, 10, 45, 45] ++ bd ++ [45, 45]).drop 2 = [45, 45] ++ bd ++ [45, 45] := by simp
  refine ⟨⟨b, bf, H1.size, br, 153, 5, 125, 156, v, l, 138, .pointer (some e)⟩, ⟨zbuf 4096, 0, 0, 0, false, false, -1, -1, .int .i64 (-1)⟩, H3.size, H.size, ⟨.pointer (some ⟨b, 0, none⟩), .string ⟨#[]⟩, .pointer none, 0, .slice (some ⟨H.size, 0, none⟩) 2 c, .slice (some ⟨H.size, 0, none⟩) (bd.length + 4) c, .slice (some ⟨H.size, 2, none⟩) (bd.length + 4) (c - 2), .slice (some ⟨H.size, 2, none⟩) (bd.length + 2) (c - 2)⟩,
    rfl, ?_, ?_, ?_, rfl, rfl, rfl, rfl, rfl, f, ?_, rfl, rfl, rfl, by have := f4.size; omega⟩
  · refine { hb := f4.get hb (by simp), hbf := f4.get hbf (by simp), hst := (f3.trans f4).get hst2 (by simp), hbr := f.get hbr (by simp), hv := hv.frm f (by simp), hE := hE.frm f (by simp), blen := zbuf_length _, rw := Nat.le_refl _, w4 := by simp, pl := Nat.zero_le _, he := (fun h => by cases h), hs := (fun h => by cases h), small := hl, d0 := ?_, d1 := ?_, d2 := ?_ }
    · simp [Stk.ids]; omega
    · simp [Stk.ids]; omega
    · intro x hx
      have := hvb x hx
      simp [Stk.ids]; omega
  · refine { hm := hm4, hbr := rfl, nl := ?_, nld := ?_, dd := ?_, dash := ?_, bl := ⟨rfl, rfl, rfl, rfl⟩, ht := ?_, hmr := ?_, hv := ?_, h0 := ?_ }
    · have := hr4.bytes (o := 0) (n := 2) (c := c) (by rw [hlen]; omega) (by omega)
      simpa using this
    · have := hr4.bytes (o := 0) (n := bd.length + 4) (c := c) (by rw [hlen]; omega) (by omega)
      rw [List.drop_zero, List.take_left' (by simp)] at this
      exact this
    · have := hr4.bytes (o := 2) (n := bd.length + 4) (c := c - 2) (by rw [hlen]; omega) (by omega)
      rw [hd2, List.take_of_length_le (by simp)] at this
      exact this
    · have := hr4.bytes (o := 2) (n := bd.length + 2) (c := c - 2) (by rw [hlen]; omega) (by omega)
      rw [hd2, List.take_left' (by simp)] at this
      exact this
    · simp [Stk.ids]; omega
    · simp [Stk.ids]; omega
    · intro hx
      have := hvb _ hx
      omega
    · omega
  · simp [St.rest]
  · intro y hy hyb
    simp [Stk.ids] at hy
    omega
end Go.Cps

/-
  nextPart over a body without parts; how a body's end is told; Parts of it.
  Conditions: the boundary is no empty text and has no line break.
-/
namespace Go.Cps
open Go Go.Proofs

theorem nl?_line {p q : List UInt8} (hp : 10 ∉ p) : nl? (p ++ 10 :: q) = some p.length := by
  have h : nl? p = none := by
    unfold nl?
    rw [List.findIdx?_eq_none_iff]
    intro x hx
    rw [beq_eq_false_iff_ne]
    rintro rfl
    exact hp hx
  rw [nl?_append_none h]
  have : nl? (10 :: q) = some 0 := by unfold nl?; rw [List.findIdx?_cons]; rfl
  rw [this]; simp

theorem line_ok {S : Stk} {s : St} {H : Heap} {p q : List UInt8} (h : RdAt S s H) (hr : s.rest S = p ++ 10 :: q) (hp : 10 ∉ p) (hl : p.length < 4096) :
    CallsH Tryz.prog 93 #[.pointer (some ⟨S.b, 0, none⟩), .int .u8 10] H fun x H' => ∃ u s', x = .tuple #[u, .nilIface] ∧ RdAt S s' H' ∧ IsBytes H' u (p ++ [10]) ∧ s'.rest S = q ∧ Rng u S.bf s'.r ∧ Frm S.ids H H' ∧ H'.size = H.size := by
  have hn := nl?_line (q := q) hp
  rw [← hr] at hn
  refine (readSlice_ok h (fun e => by rw [hn] at e; cases e) (fun j e => by rw [hn] at e; cases e; exact hl)).mono ?_
  rintro x H' ⟨u, s', rfl, hL⟩
  have hll : lineLen (s.rest S) = p.length + 1 := by rw [lineLen, hn]
  have h1 := hL.line
  have h2 := hL.rest
  rw [hll, hr] at h1 h2
  have e1 : (p ++ 10 :: q).take (p.length + 1) = p ++ [10] := by
    rw [show p ++ 10 :: q = (p ++ [10]) ++ q by simp, List.take_left' (by simp)]
  have e2 : (p ++ 10 :: q).drop (p.length + 1) = q := by
    rw [show p ++ 10 :: q = (p ++ [10]) ++ q by simp, List.drop_left' (by simp)]
  rw [e1] at h1
  rw [e2] at h2
  exact ⟨u, s', by rw [hn]; rfl, hL.rd, h1, h2, hL.rng, hL.frm, hL.size⟩

theorem dash_ne {bd : List UInt8} (h : bd ≠ []) : (([45, 45] ++ bd) == [45, 45]) = false := by
  rw [beq_eq_false_iff_ne]
  intro e
  apply h
  have := congrArg List.length e
  simp at this
  exact this

structure GoodBd (bd : List UInt8) : Prop where
  ne : bd ≠ []
  nl : 10 ∉ bd
  len : bd.length < 100

theorem delim_blank {bd : List UInt8} : delimLine [13, 10] ([45, 45] ++ bd) [13, 10] = false := by
  simp [delimLine, List.isPrefixOf]
theorem final_blank {bd : List UInt8} : finalLine [13, 10] ([45, 45] ++ bd ++ [45, 45]) [13, 10] = false := by
  simp [finalLine, List.isPrefixOf]
theorem prefix_self (a b : List UInt8) : a.isPrefixOf (a ++ b) = true := by
  rw [List.isPrefixOf_iff_prefix]; exact List.prefix_append a b
theorem delim_end {bd : List UInt8} : delimLine ([45, 45] ++ bd ++ [45, 45, 13, 10]) ([45, 45] ++ bd) [13, 10] = false := by
  simp only [delimLine, prefix_self, List.drop_left, Bool.true_and]
  decide
theorem final_end {bd : List UInt8} : finalLine ([45, 45] ++ bd ++ [45, 45, 13, 10]) ([45, 45] ++ bd ++ [45, 45]) [13, 10] = true := by
  have e : [45, 45] ++ bd ++ [45, 45, 13, 10] = ([45, 45] ++ bd ++ [45, 45]) ++ [13, 10] := by simp
  rw [e]
  simp only [finalLine, prefix_self, List.drop_left, Bool.true_and]
  decide

theorem state_end {e : Addr} {H : Heap} (hE : EOFat H (.iface 138 (.pointer (some e)))) : CallsH Tryz.prog 66 #[.iface 138 (.pointer (some e))] H fun x H' => x = .int .i64 1 ∧ H' = H := by
  apply s66
  simp only [c66, load1V_ptr, hE.load, Get_some, eq_same, Br_true, and_self]

end Go.Cps
