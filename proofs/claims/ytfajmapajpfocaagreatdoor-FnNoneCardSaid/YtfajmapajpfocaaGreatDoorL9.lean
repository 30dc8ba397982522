/-
  A multipart Reader made over bytes: source, NewReader and what they call.
  Conditions: the bytes are fewer than 2^40.
-/
import Derived.Test.YtfajmapajpfocaaGreatDoorL8
set_option linter.all false
namespace Go.Cps
open Go Go.Proofs

def strVal (l : List UInt8) : Value := .string ⟨l.toArray⟩
theorem bstr_append (a b : List UInt8) : ((⟨a.toArray⟩ : ByteArray) ++ ⟨b.toArray⟩) = ⟨(a ++ b).toArray⟩ := by
  apply ByteArray.ext
  rw [ByteArray.data_append]
  simp
theorem bstr_size (a : List UInt8) : (⟨a.toArray⟩ : ByteArray).size = a.length := by simp [ByteArray.size]
theorem strV_add {a b : List UInt8} (h : a.length + b.length < 2 ^ 62) : strV .add (strVal a) (strVal b) = some (strVal (a ++ b)) := by
  simp only [strVal, strV, bstr_size, bstr_append]
  rw [if_pos (by omega)]

/-- a block whose first cells are these bytes -/
def Row (H : Heap) (b : Nat) (l : List UInt8) : Prop := ∀ j, j < l.length → cellH H ⟨b, j, none⟩ = (l[j]?).map byteV
theorem Row.bytes {H : Heap} {b : Nat} {l : List UInt8} (h : Row H b l) {o n c : Nat} (hn : o + n ≤ l.length) (hc : n ≤ c) : IsBytes H (.slice (some ⟨b, o, none⟩) n c) ((l.drop o).take n) := by
  have hl : ((l.drop o).take n).length = n := by simp; omega
  refine .inl ⟨b, o, c, by rw [hl], by rw [hl]; exact hc, fun j hj => ?_⟩
  rw [hl] at hj
  rw [h _ (by omega), List.getElem?_take, if_pos hj, List.getElem?_drop]
theorem Row.frm {H H' : Heap} {b : Nat} {l : List UInt8} {X : List Nat} (h : Row H b l) (f : Frm X H H') (hb : b ∉ X) (hs : b < H.size) : Row H' b l := by
  intro j hj
  rw [← h j hj]
  simp only [cellH, f.same b hs hb]
theorem Row.of {H : Heap} {b : Nat} {l : List UInt8} {z : Array Value} {t : TypeId} {f : Nat × Nat} (h : H[b]? = some (.cells ((l.map byteV).toArray ++ z) t f)) : Row H b l := by
  intro j hj
  rw [cellH_of h, Array.getElem?_append_left (by simpa using hj)]
  simp

theorem toBytes_of {l : List UInt8} {e : TypeId} {H : Heap} {K : Value → Heap → Prop} (h : ∀ c H', l.length ≤ c → Row H' H.size l → Frm [] H H' → H'.size = H.size + 1 → K (.slice (some ⟨H.size, 0, none⟩) l.length c) H') : ToBytes e (strVal l) H K := by
  refine ⟨_, rfl, fun c hc => ?_⟩
  rw [bstr_size] at hc ⊢
  refine h c _ hc (Row.of (z := Array.replicate (c - l.length) (.int .u8 0)) (t := e) (f := (c, c + 1)) ?_) (Frm.push _ _ _) (by simp)
  rw [push_same]
  congr 3
  simp [byteV]

theorem nextcap0 (n : Nat) : Builtin.nextslicecap n 0 = n := by
  unfold Builtin.nextslicecap
  split
  · rfl
  · simp_all

/-- append of bytes to an empty slice without room -/
theorem append_empty {b : Option Addr} {x : Value} {l : List UInt8} {H : Heap} {K : Value → Heap → Prop} (hx : IsBytes H x l) (hl : l.length < 2 ^ 48) (h0 : l = [] → K (.slice b 0 0) H)
    (h : ∀ c H', l.length ≤ c → Row H' H.size l → Frm [] H H' → H'.size = H.size + 1 → (∃ z, H'[H.size]? = some (.cells ((l.map byteV).toArray ++ z) 5 (0, 0)) ∧ z.size = c - l.length) → K (.slice (some ⟨H.size, 0, none⟩) l.length c) H') :
    Append 5 1 1 #[.int .u8 0] (.slice b 0 0) x H K := by
  obtain ⟨h1, h2⟩ := hx.elems (m := l.length) (Nat.le_refl _)
  rw [List.take_length] at h1
  refine ⟨b, 0, 0, l.length, _, rfl, h2, h1, ?_⟩
  by_cases hz : l = []
  · subst hz
    refine .inl ⟨by simp, ?_⟩
    cases b with
    | none => exact ⟨_, rfl, h0 rfl⟩
    | some a => exact ⟨_, rfl, h0 rfl⟩
  · have : 0 < l.length := List.length_pos_iff.2 hz
    refine .inr ⟨by omega, by omega, by rw [nextcap0]; omega, [], ?_, fun c hc => ?_⟩
    · cases b <;> rfl
    · simp only [Nat.zero_add] at hc ⊢
      refine h c _ hc (Row.of (z := zeros #[.int .u8 0] (c - l.length)) (t := 5) (f := (0, 0)) (by rw [push_same]; simp)) (Frm.push _ _ _) (by simp) ⟨zeros #[.int .u8 0] (c - l.length), by rw [push_same]; simp, ?_⟩
      simp [zeros, Builtin.zeroCells]

theorem cells_one {v : Value} (h : isOne v = true) : v.cells = #[v] := by cases v <;> first | rfl | simp [isOne] at h
theorem fill_cons {place : Nat → Option (Nat × Nat)} {cs : Array Value} {i off : Nat} {v : Value} {r : List (Nat × Value)} (hv : isOne v = true) (hp : place i = some (off, 1)) (ho : off < cs.size) : Instr.fill place cs ((i, v) :: r) = Instr.fill place (cs.setIfInBounds off v) r := by
  have h1 : ¬ (cs.size < off + 1) := by omega
  simp [Instr.fill, hp, cells_one hv, h1]
theorem fillV_cons {ps : Array (Nat × Nat)} {cs : Array Value} {i off : Nat} {v : Value} {r : List (Nat × Value)} (hv : isOne v = true) (hp : ps[i]? = some (off, 1)) (ho : off < cs.size) : fillV ps cs ((i, v) :: r) = fillV ps (cs.setIfInBounds off v) r := fill_cons hv hp ho
theorem fillV_nil {ps : Array (Nat × Nat)} {cs : Array Value} : fillV ps cs [] = some cs := rfl

theorem newReaderB_ok {v : Value} {H : Heap} (hv : isOne v = true) : CallsH Tryz.prog 70 #[v] H fun x H' => x = .pointer (some ⟨H.size, 0, none⟩) ∧ H' = H.push (.cells #[v, .int .i64 0, .int .i64 (-1)] 156 (0, 0)) := by
  apply s70
  have e : fillV #[(0, 1), (1, 1), (2, 1)] #[(.slice none 0 0), (.int .i64 0), (.int .i64 0)] [(0, v), (1, (.int .i64 0)), (2, (.int .i64 (-1)))] = some #[v, .int .i64 0, .int .i64 (-1)] := by
    rw [fillV_cons hv rfl (by simp), fillV_cons rfl rfl (by simp), fillV_cons rfl rfl (by simp), fillV_nil]
    rfl
  simp only [c70, e, Option.map_some, Get_some, New, Value.cells, and_self]

theorem source_ok {a : Value} {l : List UInt8} {H : Heap} (ha : IsBytes H a l) (hl : l.length < 2 ^ 40) :
    CallsH Tryz.prog 38 #[a] H fun x H' => ∃ br v, x = .iface 128 (.pointer (some ⟨br, 0, none⟩)) ∧ H'[br]? = some (.cells #[v, .int .i64 0, .int .i64 (-1)] 156 (0, 0)) ∧ IsBytes H' v l ∧ Frm [] H H' ∧ H.size ≤ br ∧ (∀ x, blk v = some x → H.size ≤ x ∧ x ≠ br ∧ x < H'.size) ∧ br < H'.size := by
  apply s38
  have e : Instr.fill (fun j => some (j * 1, 1)) ((Array.range (0 * 1)).map ((#[(.int .u8 0)] : Array Value)[· % 1]!)) [] = some #[] := by kernel_rfl
  simp only [c38, e, Get_some, NewSl]
  have f0 : Frm [] H (H.push (.cells #[] 5 (0, 0))) := Frm.push _ _ _
  refine append_empty (ha.frm f0 (by simp)) (by omega) (fun hz => ?_) (fun c H' hc hr f z _ => ?_)
  · refine (newReaderB_ok rfl).mono ?_
    rintro x H' ⟨rfl, rfl⟩
    refine ⟨_, _, rfl, push_same _ _, .inl ⟨H.size, 0, 0, by rw [hz]; rfl, by rw [hz]; simp, fun j hj => by rw [hz] at hj; simp at hj⟩, f0.trans (Frm.push _ _ _), by simp, ?_, by simp⟩
    intro x hx
    simp [blk] at hx
    simp; omega
  · refine (newReaderB_ok rfl).mono ?_
    rintro x H'' ⟨rfl, rfl⟩
    have hb := (hr.frm (Frm.push [] _ (.cells #[.slice (some ⟨(H.push (.cells #[] 5 (0, 0))).size, 0, none⟩) l.length c, .int .i64 0, .int .i64 (-1)] 156 (0, 0))) (by simp) (by omega)).bytes (o := 0) (n := l.length) (c := c) (by omega) hc
    refine ⟨_, _, rfl, push_same _ _, by simpa using hb, (f0.trans f).trans (Frm.push _ _ _), by simp at z; omega, ?_, by simp⟩
    intro x hx
    simp only [blk, Option.some.injEq, Array.size_push] at hx z ⊢
    omega

/- the bufio Reader -/
theorem reset_ok {b : Nat} {cs : Array Value} {t : TypeId} {u r : Value} {H : Heap} (h : H[b]? = some (.cells cs t (0, 0))) (hc : cs.size = 7) (hu : isOne u = true) (hr : isOne r = true) :
    CallsH Tryz.prog 91 #[.pointer (some ⟨b, 0, none⟩), u, r] H fun x H' => H'[b]? = some (.cells #[u, r, .int .i64 0, .int .i64 0, .nilIface, .int .i64 (-1), .int .i64 (-1)] t (0, 0)) ∧ Frm [b] H H' ∧ H'.size = H.size := by
  apply s91
  have e : fillV #[(0, 1), (1, 1), (2, 1), (3, 1), (4, 1), (5, 1), (6, 1)] #[(.slice none 0 0), .nilIface, (.int .i64 0), (.int .i64 0), .nilIface, (.int .i64 0), (.int .i64 0)] [(0, u), (1, r), (5, (.int .i64 (-1))), (6, (.int .i64 (-1)))] = some #[u, r, .int .i64 0, .int .i64 0, .nilIface, .int .i64 (-1), .int .i64 (-1)] := by
    rw [fillV_cons hu rfl (by decide), fillV_cons hr rfl (by simp), fillV_cons rfl rfl (by simp), fillV_cons rfl rfl (by simp), fillV_nil]
    rfl
  have hst := stores_upd [u, r, .int .i64 0, .int .i64 0, .nilIface, .int .i64 (-1), .int .i64 (-1)] H b 0 0 cs t h (by simp [hc]) (by
    intro v hv
    simp only [List.mem_cons, List.not_mem_nil, or_false] at hv
    rcases hv with rfl | rfl | rfl | rfl | rfl | rfl | rfl <;> first | assumption | rfl)
  have hp : putAt cs (0 + 0) [u, r, .int .i64 0, .int .i64 0, .nilIface, .int .i64 (-1), .int .i64 (-1)] = #[u, r, .int .i64 0, .int .i64 0, .nilIface, .int .i64 (-1), .int .i64 (-1)] := by
    apply Array.ext_getElem?
    intro i
    rw [putAt_get _ _ _ _ (by simp [hc])]
    split
    · simp
    · rename_i hi
      simp at hi
      rw [Array.getElem?_eq_none (by omega), Array.getElem?_eq_none (by simp; omega)]
  rw [hp] at hst
  have hs : storeNV 7 (.pointer (some ⟨b, 0, none⟩)) (.agg #[u, r, .int .i64 0, .int .i64 0, .nilIface, .int .i64 (-1), .int .i64 (-1)]) H = some (upd H b (.cells #[u, r, .int .i64 0, .int .i64 0, .nilIface, .int .i64 (-1), .int .i64 (-1)] t (0, 0))) := by
    exact hst
  simp only [c91, e, Option.map_some, Fld_ptr, add_mk, Nat.zero_add, List.getElem?_toArray, List.getElem?_cons_succ, List.getElem?_cons_zero, Get_some, Br_true, Br_false, nth_zero, nth_one, nth_two, extractV_tuple, fieldAddrV_ptr, nilV_ptr, load1V_ptr, pickV_bool, unV_not, lenV_slice, capV_slice, hs]
  exact ⟨upd_same (lt_of_some h), Frm.upd _ (by simp), by simp⟩

theorem zeros_eq (n : Nat) : ((Array.range (n * 1)).map ((#[(.int .u8 0)] : Array Value)[· % 1]!)) = ((List.replicate n (0 : UInt8)).map byteV).toArray := by
  apply Array.ext_getElem?
  intro i
  by_cases hi : i < n
  · simp [hi, Nat.mod_one, byteV]
  · simp [hi]

def zbuf (n : Nat) : List UInt8 := List.replicate n 0
theorem zbuf_length (n : Nat) : (zbuf n).length = n := by simp [zbuf]

theorem makeBytes_of {n : Nat} {H : Heap} {K : Value → Heap → Prop} (hn : n < 2 ^ 47) (h : K (.slice (some ⟨H.size, 0, none⟩) n n) (H.push (.cells ((zbuf n).map byteV).toArray 5 (0, 0)))) :
    MakeSlice 5 1 1 #[.int .u8 0] (.int .i64 n) (.int .i64 n) H K := by
  refine ⟨.i64, .i64, n, n, rfl, rfl, Nat.le_refl _, by omega, by omega, ?_⟩
  have e1 : (#[(.int .u8 0)] : Array Value).size = 1 := rfl
  rw [e1, zeros_eq n]
  exact h

theorem newSize_ok {r : Value} {H : Heap} :
    CallsH Tryz.prog 69 #[.iface 123 r, .int .i64 4096] H fun x H' => ∃ b bf, x = .pointer (some ⟨b, 0, none⟩) ∧ H.size ≤ b ∧ H.size ≤ bf ∧ b ≠ bf ∧
      H'[b]? = some (.cells #[.slice (some ⟨bf, 0, none⟩) 4096 4096, .iface 123 r, .int .i64 0, .int .i64 0, .nilIface, .int .i64 (-1), .int .i64 (-1)] 153 (0, 0)) ∧
      H'[bf]? = some (.cells ((zbuf 4096).map byteV).toArray 5 (0, 0)) ∧ Frm [] H H' := by
  apply s69
  unfold c69
  rw [tassert]
  have hmax : maxV (.int .i64 4096) (.int .i64 16) = some (.int .i64 ((4096 : Nat) : Int)) := rfl
  simp only [Fld_ptr, add_mk, Nat.zero_add, List.getElem?_toArray, List.getElem?_cons_succ, List.getElem?_cons_zero, Get_some, Br_true, Br_false, nth_zero, nth_one, nth_two, extractV_tuple, fieldAddrV_ptr, nilV_ptr, load1V_ptr, pickV_bool, unV_not, lenV_slice, capV_slice]
  refine Join_direct ?_
  simp only [Fld_ptr, add_mk, Nat.zero_add, List.getElem?_toArray, List.getElem?_cons_succ, List.getElem?_cons_zero, Get_some, Br_true, Br_false, nth_zero, nth_one, nth_two, extractV_tuple, fieldAddrV_ptr, nilV_ptr, load1V_ptr, pickV_bool, unV_not, lenV_slice, capV_slice, Bool.false_eq_true, if_false, hmax, New]
  refine makeBytes_of (n := 4096) (by omega) ?_
  refine (reset_ok (b := H.size) (cs := #[(.slice none 0 0), .nilIface, (.int .i64 0), (.int .i64 0), .nilIface, (.int .i64 0), (.int .i64 0)]) (t := 153) (push_old (push_same _ _)) rfl rfl rfl).mono ?_
  rintro x H' ⟨hb, f, z⟩
  refine ⟨H.size, _, rfl, Nat.le_refl _, ?_, ?_, hb, f.get (push_same _ _) (by simp), ?_⟩
  · simp
  · simp
  · refine ⟨by rw [z]; simp; omega, fun k hk _ => ?_⟩
    rw [f.same k (by simp; omega) (by simp; omega), Array.getElem?_push, if_neg (by simp; omega), Array.getElem?_push, if_neg (by omega)]
end Go.Cps
