/-
  A part of the proof (its texts: L69, L56, L58): each text says below what it proves.
  Conditions: each contract's own.
-/
import Derived.Shelf.SlIter.Sorted
import Derived.Shelf.SortM.Plain
import Derived.Shelf.SortM.SortNone
import Derived.Test.YtfajmapajpfocaaGreatDoorB13
import Derived.Test.YtfajmapajpfocaaGreatDoorB21
import Derived.Test.YtfajmapajpfocaaGreatDoorB22
import Derived.Test.YtfajmapajpfocaaGreatDoorB24
import Derived.Test.YtfajmapajpfocaaGreatDoorB26
set_option linter.all false
/-
  spec.FieldParts.
  Conditions: short names.
-/
namespace Go.Cps
open Go Go.Proofs

def cdKey : List UInt8 := [67, 111, 110, 116, 101, 110, 116, 45, 68, 105, 115, 112, 111, 115, 105, 116, 105, 111, 110]
def ctKey : List UInt8 := [67, 111, 110, 116, 101, 110, 116, 45, 84, 121, 112, 101]
def octet : List UInt8 := [97, 112, 112, 108, 105, 99, 97, 116, 105, 111, 110, 47, 111, 99, 116, 101, 116, 45, 115, 116, 114, 101, 97, 109]
def dName : List UInt8 := [102, 111, 114, 109, 45, 100, 97, 116, 97, 59, 32, 110, 97, 109, 101, 61, 34]
def dFile : List UInt8 := [59, 32, 102, 105, 108, 101, 110, 97, 109, 101, 61, 34]
def dispOf (f : FieldL) : List UInt8 := if f.file = [] then dName ++ quoteB f.name ++ [34] else (dName ++ quoteB f.name ++ [34]) ++ (dFile ++ quoteB f.file ++ [34])
def fieldHead (f : FieldL) : List Hdr := if f.file = [] then [(cdKey, [dispOf f])] else [(cdKey, [dispOf f]), (ctKey, [octet])]
def fieldPart (f : FieldL) : PartL := (fieldHead f, f.value)

theorem strs1 {D : List Nat} {H : Heap} {b : Nat} {s : List UInt8} (h : H[b]? = some (.cells #[strVal s] 9 (0, 0))) (hb : b ∉ D) : StrsV D H (.slice (some ⟨b, 0, none⟩) 1 1) [s] :=
  .inl ⟨b, 0, 1, rfl, by simp, hb, lt_of_some h, fun j hj => by
    have : j = 0 := by simpa using hj
    subst this
    refine ⟨[strVal s], rfl, rfl, fun i hi => ?_⟩
    have : i = 0 := by omega
    subst this
    rw [cellH_of h]; rfl⟩
theorem heads1 {D : List Nat} {H : Heap} {b : Nat} {k : List UInt8} {y : Value} {vs : List (List UInt8)} (h : H[b]? = some (.cells #[strVal k, y] 90 (0, 0))) (hb : b ∉ D) (hy : StrsV D H y vs) : HeadsV D H (.slice (some ⟨b, 0, none⟩) 1 1) [(k, vs)] :=
  .inl ⟨b, 0, 1, rfl, by simp, hb, lt_of_some h, fun j hj => ⟨[strVal k, y], rfl, by
    have : j = 0 := by simpa using hj
    subst this
    exact ⟨y, rfl, hy⟩, fun i hi => by
    have : j = 0 := by simpa using hj
    subst this
    rw [cellH_of h]
    rcases i with _ | _ | i
    · rfl
    · rfl
    · omega⟩⟩
theorem heads2 {D : List Nat} {H : Heap} {b : Nat} {k k' : List UInt8} {y y' : Value} {vs vs' : List (List UInt8)} (h : H[b]? = some (.cells #[strVal k, y, strVal k', y'] 90 (0, 0))) (hb : b ∉ D) (hy : StrsV D H y vs) (hy' : StrsV D H y' vs') : HeadsV D H (.slice (some ⟨b, 0, none⟩) 2 2) [(k, vs), (k', vs')] :=
  .inl ⟨b, 0, 2, rfl, by simp, hb, lt_of_some h, fun j hj => by
    rcases j with _ | _ | j
    · refine ⟨[strVal k, y], rfl, ⟨y, rfl, hy⟩, fun i hi => ?_⟩
      rw [cellH_of h]
      rcases i with _ | _ | i
      · rfl
      · rfl
      · omega
    · refine ⟨[strVal k', y'], rfl, ⟨y', rfl, hy'⟩, fun i hi => ?_⟩
      rw [cellH_of h]
      rcases i with _ | _ | i
      · rfl
      · rfl
      · omega
    · simp at hj; omega⟩
theorem fill4 {z1 z2 a b c d : Value} : Instr.fill (fun j => some (j * 2, 2)) ((Array.range (2 * 2)).map ((#[z1, z2] : Array Value)[· % 2]!)) [(0, .agg #[a, b]), (1, .agg #[c, d])] = some #[a, b, c, d] := by
  have e0 : (Array.range (2 * 2)) = #[0, 1, 2, 3] := by decide
  rw [e0]
  simp [Instr.fill, Value.cells]

theorem newSl_of {cs : Array Value} {T n : Nat} {H : Heap} {K : Value → Heap → Prop} (hK : ∀ H', H'[H.size]? = some (.cells cs T (0, 0)) → Frm [] H H' → H'.size = H.size + 1 → K (.slice (some ⟨H.size, 0, none⟩) n n) H') : NewSl cs T n H K :=
  hK _ (push_same _ _) (Frm.push _ _ _) (by simp)

theorem agg2 {z1 z2 a b : Value} (ha : isOne a = true) (hb : isOne b = true) (hz : True) : fillV #[(0, 1), (1, 1)] #[z1, z2] [(0, a), (1, b)] = some #[a, b] := by
  rw [fillV_cons ha rfl (by simp), fillV_cons hb rfl (by simp), fillV_nil]; rfl

theorem fieldParts_ok {D : List Nat} {HH : Heap} {v : Value} {l : List FieldL} (hv : FieldsV D HH v l) (hl : l.length < 2 ^ 35) (hlf : ∀ f ∈ l, f.name.length < 2 ^ 35 ∧ f.file.length < 2 ^ 35) :
    CallsH Tryz.prog 16 #[v] HH fun x H' => PartsV [] H' x (l.map fieldPart) ∧ Frm [] HH H' := by
  apply s16
  simp only [c16, hv.len, Get_some]
  refine ⟨fun μ vs H1 => ∃ (i : Nat) (k : Option Nat) (out : Value), vs = [out, .int .i64 i] ∧ μ = l.length - i ∧ i ≤ l.length ∧ OwnS 2 39 PartR [] H1 k out ((l.take i).map fieldPart) ∧ Frm [] HH H1 ∧ ∀ g, k = some g → HH.size ≤ g, ⟨_, 0, none, _, rfl, rfl, Nat.zero_le _, ⟨rfl, rfl⟩, Frm.refl _ _, by simp⟩, ?_⟩
  rintro μ vs H1 ⟨i, k, out, rfl, rfl, hi, hown, f1, hk⟩
  simp only [Fld_ptr, add_mk, Nat.zero_add, List.getElem?_toArray, List.getElem?_cons_succ, List.getElem?_cons_zero, Get_some, Br_true, Br_false, nth_zero, nth_one, nth_two, extractV_tuple, fieldAddrV_ptr, nilV_ptr, load1V_ptr, pickV_bool, unV_not, lenV_slice, capV_slice, arithV_add, arithV_sub, arithV_eql, arithV_neq, arithV_lss, arithV_leq, arithV_gtr, arithV_geq, intConvV_int, dec_lt]
  refine Br_intro (fun hlt => ?_) (fun hlt => ?_)
  · have hlt' : i < l.length := by simpa using hlt
    have hvk : FieldsV (k.toList ++ D) HH v l := by
      cases k with
      | none => exact hv
      | some g => exact hv.new fieldR_ok (hk g rfl)
    obtain ⟨a, vs, ha, hlo, _, hR, _⟩ := (hvk.frm fieldR_ok f1 (by simp)).elem hlt'
    obtain ⟨z, rfl, hz⟩ := field_shape hR
    obtain ⟨hl1, hl2⟩ := hlf l[i] (List.getElem_mem hlt')
    have htk : (l.take (i + 1)).map fieldPart = (l.take i).map fieldPart ++ [fieldPart l[i]] := by
      rw [List.take_succ_eq_append_getElem hlt', List.map_append]; rfl
    generalize l[i] = f at *
    refine ⟨fun vs H2 => ∃ (k' : Option Nat) (out' : Value), vs = [out'] ∧ OwnS 2 39 PartR [] H2 k' out' ((l.take i).map fieldPart ++ [fieldPart f]) ∧ Frm [] HH H2 ∧ ∀ g, k' = some g → HH.size ≤ g, ?_, ?_⟩
    · simp only [ha, Get_some, hlo]
      refine local3 (K := fun x5 H => _) rfl rfl hz.isOne fun H2 hb2 f2 z2 => ?_
      simp only [Fld_ptr, add_mk, Nat.zero_add, List.getElem?_toArray, List.getElem?_cons_succ, List.getElem?_cons_zero, Get_some, Br_true, Br_false, nth_zero, nth_one, nth_two, extractV_tuple, fieldAddrV_ptr, nilV_ptr, load1V_ptr, pickV_bool, unV_not, lenV_slice, capV_slice, cellH_of hb2]
      refine (quote_ok (by omega)).mono ?_
      rintro x H3 ⟨rfl, f3⟩
      have hb3 := f3.get hb2 (by simp)
      have hqn := quoteB_len f.name
      have hqf := quoteB_len f.file
      have e1 : strV .add (.string ⟨#[102, 111, 114, 109, 45, 100, 97, 116, 97, 59, 32, 110, 97, 109, 101, 61, 34]⟩) (strVal (quoteB f.name)) = some (strVal (dName ++ quoteB f.name)) := strV_add (a := dName) (by simp [dName]; omega)
      have e2 : strV .add (strVal (dName ++ quoteB f.name)) (.string ⟨#[34]⟩) = some (strVal (dName ++ quoteB f.name ++ [34])) := strV_add (b := [34]) (by simp [dName]; omega)
      have e3 : strV .eql (strVal f.file) (.string ⟨#[]⟩) = some (.bool (decide (f.file = []))) := strV_eql' f.file []
      simp only [e1, e2, Fld_ptr, add_mk, Nat.zero_add, List.getElem?_toArray, List.getElem?_cons_succ, List.getElem?_cons_zero, Get_some, Br_true, Br_false, nth_zero, nth_one, nth_two, extractV_tuple, fieldAddrV_ptr, nilV_ptr, load1V_ptr, pickV_bool, unV_not, lenV_slice, capV_slice, cellH_of hb3, e3]
      have f13 := (f2.trans f3)
      have hown3 := hown.frm partR_ok f13 (by simp)
      have hkl : ∀ x ∈ k.toList ++ ([] : List Nat), x < H3.size := fun x hx => by
        have := (hown3.lt x (by simpa using hx)).1
        exact this
      have hz3 : BytV (k.toList ++ []) H3 z f.value := (hz.frm f13 (by simp)).sub (fun x hx => by simp at hx; simp [hx])
      have hfin : ∀ {H4 : Heap} {y : Value}, HeadsV (k.toList ++ []) H4 y (fieldHead f) → Frm [] H3 H4 →
          Get ((fillV #[(0, 1), (1, 1)] #[(.slice none 0 0), (.slice none 0 0)] [(0, y), (1, z)]).map .agg) fun x28 =>
          Get (Instr.fill (fun j => some (j * 2, 2)) ((Array.range (1 * 2)).map ((#[(.slice none 0 0), (.slice none 0 0)] : Array Value)[· % 2]!)) [(0, x28)]) fun cs => NewSl cs 39 1 H4 fun x29 H =>
          Append 39 2 48 #[(.slice none 0 0), (.slice none 0 0)] out x29 H fun x30 H => ∃ (k' : Option Nat) (out' : Value), [x30] = [out'] ∧ OwnS 2 39 PartR [] H k' out' ((l.take i).map fieldPart ++ [fieldPart f]) ∧ Frm [] HH H ∧ ∀ g, k' = some g → HH.size ≤ g := by
        intro H4 y hy f4
        simp only [agg2 hy.isOne hz3.isOne trivial, Option.map_some, Get_some, fill2]
        refine newSl_of fun H5 hb5 f5 z5 => ?_
        have hown5 := (hown3.frm partR_ok f4 (by simp)).frm partR_ok f5 (by simp)
        refine append_one partR_ok (xs := [y, z]) (a := fieldPart f) hown5 (fun i hi => by rw [cellH_of hb5]; simp) rfl ⟨y, z, rfl, hy.frm headR_ok f5 (by simp), (hz3.frm f4 (by simp)).frm f5 (by simp)⟩ rfl (by simp; omega) (by omega) (by simp) (by omega) fun k' out' H6 hown6 f6 hk6 => ?_
        have f16 := ((f1.trans f13).trans f4).trans f5
        refine ⟨k', out', rfl, hown6, f16.up f6 (fun x hx => .inr (hk x (by simpa using hx))), fun g hg => ?_⟩
        rcases hk6 with e | ⟨g', e, hge⟩
        · exact hk g (by rw [← e, hg])
        · rw [hg] at e; cases e; have := f16.size; omega
      refine Br_intro (fun h0 => ?_) (fun h0 => ?_)
      · have h0' : f.file = [] := by simpa using h0
        simp only [fill1 (v := strVal _) rfl, Get_some]
        refine newSl_of fun H4 hb4 f4 z4 => ?_
        have hs4 : StrsV (k.toList ++ []) H4 (.slice (some ⟨H3.size, 0, none⟩) 1 1) [dName ++ quoteB f.name ++ [34]] := strs1 hb4 (fun hm => by have := hkl _ hm; omega)
        simp only [agg2 (z1 := .string ⟨#[]⟩) (a := .string ⟨#[67, 111, 110, 116, 101, 110, 116, 45, 68, 105, 115, 112, 111, 115, 105, 116, 105, 111, 110]⟩) rfl hs4.isOne trivial, Option.map_some, Get_some, fill2]
        refine newSl_of fun H5 hb5 f5 z5 => ?_
        have hh5 : HeadsV (k.toList ++ []) H5 (.slice (some ⟨H4.size, 0, none⟩) 1 1) (fieldHead f) := by
          rw [fieldHead, if_pos h0', dispOf, if_pos h0']
          exact heads1 (k := cdKey) hb5 (fun hm => by have := hkl _ hm; omega) (hs4.frm strR_ok f5 (by simp))
        have hb35 := f5.get (f4.get hb3 (by simp)) (by simp)
        simp only [Fld_ptr, add_mk, Nat.zero_add, List.getElem?_toArray, List.getElem?_cons_succ, List.getElem?_cons_zero, Get_some, Br_true, Br_false, nth_zero, nth_one, nth_two, extractV_tuple, fieldAddrV_ptr, nilV_ptr, load1V_ptr, pickV_bool, unV_not, lenV_slice, capV_slice, cellH_of hb35]
        exact hfin hh5 (f4.trans f5)
      · have h0' : ¬ f.file = [] := by simpa using h0
        refine (quote_ok (by omega)).mono ?_
        rintro x H4 ⟨rfl, f4⟩
        have hb4 := f4.get hb3 (by simp)
        have e4 : strV .add (.string ⟨#[59, 32, 102, 105, 108, 101, 110, 97, 109, 101, 61, 34]⟩) (strVal (quoteB f.file)) = some (strVal (dFile ++ quoteB f.file)) := strV_add (a := dFile) (by simp [dFile]; omega)
        have e5 : strV .add (strVal (dFile ++ quoteB f.file)) (.string ⟨#[34]⟩) = some (strVal (dFile ++ quoteB f.file ++ [34])) := strV_add (b := [34]) (by simp [dFile]; omega)
        have e6 : strV .add (strVal (dName ++ quoteB f.name ++ [34])) (strVal (dFile ++ quoteB f.file ++ [34])) = some (strVal ((dName ++ quoteB f.name ++ [34]) ++ (dFile ++ quoteB f.file ++ [34]))) := strV_add (by simp [dName, dFile]; omega)
        simp only [e4, e5, e6, Get_some, fill1 (v := strVal _) rfl]
        refine newSl_of fun H5 hb5 f5 z5 => ?_
        have hkl4 : ∀ x ∈ k.toList ++ ([] : List Nat), x < H4.size := fun x hx => by have := hkl x hx; have := f4.size; omega
        have hs5 : StrsV (k.toList ++ []) H5 (.slice (some ⟨H4.size, 0, none⟩) 1 1) [(dName ++ quoteB f.name ++ [34]) ++ (dFile ++ quoteB f.file ++ [34])] := strs1 hb5 (fun hm => by have := hkl4 _ hm; omega)
        simp only [agg2 (z1 := .string ⟨#[]⟩) (a := .string ⟨#[67, 111, 110, 116, 101, 110, 116, 45, 68, 105, 115, 112, 111, 115, 105, 116, 105, 111, 110]⟩) rfl hs5.isOne trivial, Option.map_some, Get_some]
        rw [fill1 (v := (Value.string ⟨#[97, 112, 112, 108, 105, 99, 97, 116, 105, 111, 110, 47, 111, 99, 116, 101, 116, 45, 115, 116, 114, 101, 97, 109]⟩)) rfl, Get_some]
        refine newSl_of fun H6 hb6 f6 z6 => ?_
        have hs6 : StrsV (k.toList ++ []) H6 (.slice (some ⟨H5.size, 0, none⟩) 1 1) [octet] := strs1 (s := octet) hb6 (fun hm => by have := hkl4 _ hm; omega)
        simp only [agg2 (z1 := .string ⟨#[]⟩) (a := .string ⟨#[67, 111, 110, 116, 101, 110, 116, 45, 84, 121, 112, 101]⟩) rfl hs6.isOne trivial, Option.map_some, Get_some, fill4]
        refine newSl_of fun H7 hb7 f7 z7 => ?_
        have hh7 : HeadsV (k.toList ++ []) H7 (.slice (some ⟨H6.size, 0, none⟩) 2 2) (fieldHead f) := by
          rw [fieldHead, if_neg h0', dispOf, if_neg h0']
          exact heads2 (k := cdKey) (k' := ctKey) hb7 (fun hm => by have := hkl4 _ hm; omega) ((hs5.frm strR_ok f6 (by simp)).frm strR_ok f7 (by simp)) (hs6.frm strR_ok f7 (by simp))
        have hb47 := f7.get (f6.get (f5.get hb4 (by simp)) (by simp)) (by simp)
        simp only [Fld_ptr, add_mk, Nat.zero_add, List.getElem?_toArray, List.getElem?_cons_succ, List.getElem?_cons_zero, Get_some, Br_true, Br_false, nth_zero, nth_one, nth_two, extractV_tuple, fieldAddrV_ptr, nilV_ptr, load1V_ptr, pickV_bool, unV_not, lenV_slice, capV_slice, cellH_of hb47]
        exact hfin hh7 (((f4.trans f5).trans f6).trans f7)
    · rintro _ H2 ⟨k', out', rfl, h1, h2, h3⟩
      simp only [Fld_ptr, add_mk, Nat.zero_add, List.getElem?_toArray, List.getElem?_cons_succ, List.getElem?_cons_zero, Get_some, Br_true, Br_false, nth_zero, nth_one, nth_two, extractV_tuple, fieldAddrV_ptr, nilV_ptr, load1V_ptr, pickV_bool, unV_not, lenV_slice, capV_slice, inc_i64 (show i < 2 ^ 62 by omega)]
      exact ⟨_, by omega, i + 1, k', out', rfl, rfl, hlt', by rw [htk]; exact h1, h2, h3⟩
  · have : i = l.length := by simp at hlt; omega
    subst this
    rw [List.take_length] at hown
    exact ⟨hown.slV partR_ok, f1⟩
end Go.Cps

/-
  A multipart Writer over a bytes.Buffer: its state; a part's Write; Close; io.Copy out of a buffer.
  Conditions: each contract's own.
-/
namespace Go.Cps
open Go Go.Proofs

def lastP (last : Option Nat) : Value := .pointer (last.map fun p => ⟨p, 0, none⟩)
/-- a Writer (block wr) over a buffer (block ob), what has been written, its last part -/
structure WS (B ob wr : Nat) (bd : List UInt8) (k last : Option Nat) (l : List UInt8) (H : Heap) : Prop where
  buf : BufAt ob k l H
  wr_ : WrAt wr (.iface 58 (.pointer (some ⟨ob, 0, none⟩))) bd (lastP last) H
  pt : ∀ p, last = some p → H[p]? = some (.cells #[.pointer (some ⟨wr, 0, none⟩), .bool false, .nilIface] 115 (0, 0))
  low : B ≤ ob ∧ B ≤ wr ∧ (∀ p, last = some p → B ≤ p) ∧ ∀ g, k = some g → B ≤ g
  ne : ob ≠ wr ∧ (∀ p, last = some p → p ≠ ob ∧ p ≠ wr ∧ k ≠ some p) ∧ k ≠ some wr ∧ k ≠ some ob
def WS.ids (ob wr : Nat) (k last : Option Nat) : List Nat := ob :: wr :: (last.toList ++ k.toList)

theorem WS.sub {ob wr : Nat} {k last : Option Nat} : ∀ x ∈ ob :: k.toList, x ∈ WS.ids ob wr k last := by
  intro x hx
  simp only [WS.ids, List.mem_cons, List.mem_append] at hx ⊢
  rcases hx with h | h
  · exact .inl h
  · exact .inr (.inr (.inr h))
theorem BufAt.lt {b : Nat} {k : Option Nat} {l : List UInt8} {H : Heap} (h : BufAt b k l H) : b < H.size ∧ ∀ g, k = some g → g < H.size ∧ g ≠ b := by
  obtain ⟨sl, lr, h1, h2⟩ := h
  refine ⟨lt_of_some h1, fun g hg => ⟨?_, h2.ne g hg⟩⟩
  subst hg
  obtain ⟨cells, _, h3, _⟩ := h2
  exact lt_of_some h3

theorem WS.lt {B ob wr : Nat} {bd l : List UInt8} {k last : Option Nat} {H : Heap} (h : WS B ob wr bd k last l H) : ∀ x ∈ WS.ids ob wr k last, x < H.size ∧ B ≤ x := by
  intro x hx
  simp only [WS.ids, List.mem_cons, List.mem_append, Option.mem_toList] at hx
  rcases hx with rfl | rfl | hx | hx
  · exact ⟨h.buf.lt.1, h.low.1⟩
  · exact ⟨lt_of_some h.wr_, h.low.2.1⟩
  · exact ⟨lt_of_some (h.pt x hx), h.low.2.2.1 x hx⟩
  · exact ⟨(h.buf.lt.2 x hx).1, h.low.2.2.2 x hx⟩
theorem WS.frm {B ob wr : Nat} {bd l : List UInt8} {k last : Option Nat} {H H' : Heap} {X : List Nat} (h : WS B ob wr bd k last l H) (f : Frm X H H') (hx : ∀ x ∈ WS.ids ob wr k last, x ∉ X) : WS B ob wr bd k last l H' where
  buf := h.buf.frm f (hx ob (by simp [WS.ids])) (fun g hg => hx g (by simp [WS.ids, hg]))
  wr_ := f.get h.wr_ (hx wr (by simp [WS.ids]))
  pt := fun p hp => f.get (h.pt p hp) (hx p (by simp [WS.ids, hp]))
  low := h.low
  ne := h.ne
/-- the buffer has been written to -/
theorem WS.wrote {B ob wr : Nat} {bd l l' : List UInt8} {k k' last : Option Nat} {H H' : Heap} (h : WS B ob wr bd k last l H) (hb : BufAt ob k' l' H') (f : Frm (ob :: k.toList) H H') (hk : k' = k ∨ ∃ g, k' = some g ∧ H.size ≤ g) (hB : B ≤ H.size) : WS B ob wr bd k' last l' H' := by
  have hwr := lt_of_some h.wr_
  obtain ⟨n1, n2, n3, n4⟩ := h.ne
  refine { buf := hb, wr_ := f.get h.wr_ (fun hm => ?_), pt := fun p hp => f.get (h.pt p hp) (fun hm => ?_), low := ⟨h.low.1, h.low.2.1, h.low.2.2.1, fun g hg => ?_⟩, ne := ⟨n1, fun p hp => ?_, ?_, ?_⟩ }
  · rcases List.mem_cons.1 hm with e | e
    · exact n1 e.symm
    · exact n3 (by simpa using e)
  · obtain ⟨m1, m2, m3⟩ := n2 p hp
    rcases List.mem_cons.1 hm with e | e
    · exact m1 e
    · exact m3 (by simpa using e)
  · rcases hk with e | ⟨g', e, hge⟩
    · exact h.low.2.2.2 g (by rw [← e, hg])
    · rw [hg] at e; cases e; omega
  · obtain ⟨m1, m2, m3⟩ := n2 p hp
    refine ⟨m1, m2, fun e2 => ?_⟩
    have := lt_of_some (h.pt p hp)
    rcases hk with e | ⟨g', e, hge⟩
    · exact m3 (by rw [← e, e2])
    · rw [e2] at e; cases e; omega
  · intro e2
    rcases hk with e | ⟨g', e, hge⟩
    · exact n3 (by rw [← e, e2])
    · rw [e2] at e; cases e; omega
  · intro e2
    exact (hb.lt.2 ob e2).2 rfl

theorem meth103 : methodRes Tryz.prog 103 "Write" = some 212 := by kernel_rfl
theorem body212 : hasBody Tryz.prog 212 = true := by kernel_rfl
theorem ahead103 (a : Addr) : aheadP Tryz.prog 103 (.pointer (some a)) "Write" = true := by kernel_rfl

/-- a part's Write -/
theorem partWrite_ok {B ob wr p : Nat} {bd l d : List UInt8} {k : Option Nat} {x : Value} {H : Heap} (h : WS B ob wr bd k (some p) l H) (hx : IsBytes H x d) (hxb : ∀ y, blk x = some y → y ≠ ob) (hlen : l.length + d.length < 2 ^ 40) (hB : B ≤ H.size) :
    CallsH Tryz.prog 212 #[.pointer (some ⟨p, 0, none⟩), x] H fun r H' => r = .tuple #[.int .i64 d.length, .nilIface] ∧ ∃ k', WS B ob wr bd k' (some p) (l ++ d) H' ∧ Frm (ob :: k.toList) H H' ∧ (k' = k ∨ ∃ g, k' = some g ∧ H.size ≤ g) := by
  apply s212
  simp only [c212, Fld_ptr, add_mk, Nat.zero_add, List.getElem?_toArray, List.getElem?_cons_succ, List.getElem?_cons_zero, Get_some, Br_true, Br_false, nth_zero, nth_one, nth_two, extractV_tuple, fieldAddrV_ptr, nilV_ptr, load1V_ptr, pickV_bool, unV_not, lenV_slice, capV_slice, cellH_of (h.pt p rfl), cellH_of h.wr_]
  refine invoke_of 209 meth58 body209 ?_
  refine (bufWrite_ok h.buf hx hxb hlen).mono ?_
  rintro r H1 ⟨rfl, k', hb, f1, hk⟩
  simp only [Fld_ptr, add_mk, Nat.zero_add, List.getElem?_toArray, List.getElem?_cons_succ, List.getElem?_cons_zero, Get_some, Br_true, Br_false, nth_zero, nth_one, nth_two, extractV_tuple, fieldAddrV_ptr, nilV_ptr, load1V_ptr, pickV_bool, unV_not, lenV_slice, capV_slice]
  refine Join_direct ?_
  simp only [nilV2_neq_nil, Fld_ptr, add_mk, Nat.zero_add, List.getElem?_toArray, List.getElem?_cons_succ, List.getElem?_cons_zero, Get_some, Br_true, Br_false, nth_zero, nth_one, nth_two, extractV_tuple, fieldAddrV_ptr, nilV_ptr, load1V_ptr, pickV_bool, unV_not, lenV_slice, capV_slice]
  exact ⟨trivial, k', h.wrote hb f1 hk hB, f1, hk⟩

/-- the last part, closed -/
theorem closePart_ok {B ob wr p : Nat} {bd l : List UInt8} {k : Option Nat} {H : Heap} (h : WS B ob wr bd k (some p) l H) :
    CallsH Tryz.prog 61 #[.pointer (some ⟨p, 0, none⟩)] H fun r H' => r = .nilIface ∧ BufAt ob k l H' ∧ WrAt wr (.iface 58 (.pointer (some ⟨ob, 0, none⟩))) bd (lastP (some p)) H' ∧ Frm [p] H H' ∧ H'.size = H.size := by
  obtain ⟨n1, n2, n3, n4⟩ := h.ne
  obtain ⟨m1, m2, m3⟩ := n2 p rfl
  have hp := h.pt p rfl
  apply s61
  simp only [c61, Fld_ptr, add_mk, Nat.zero_add, List.getElem?_toArray, List.getElem?_cons_succ, List.getElem?_cons_zero, Get_some, Br_true, Br_false, nth_zero, nth_one, nth_two, extractV_tuple, fieldAddrV_ptr, nilV_ptr, load1V_ptr, pickV_bool, unV_not, lenV_slice, capV_slice]
  refine Store_of hp (by simp) rfl fun H1 hp1 f1 z1 => ?_
  simp only [List.setIfInBounds_toArray, List.set_cons_succ, List.set_cons_zero] at hp1
  simp only [Fld_ptr, add_mk, Nat.zero_add, List.getElem?_toArray, List.getElem?_cons_succ, List.getElem?_cons_zero, Get_some, Br_true, Br_false, nth_zero, nth_one, nth_two, extractV_tuple, fieldAddrV_ptr, nilV_ptr, load1V_ptr, pickV_bool, unV_not, lenV_slice, capV_slice, cellH_of hp1]
  exact ⟨trivial, h.buf.frm f1 (by rw [List.mem_singleton]; exact m1.symm) (fun g hg => by rw [List.mem_singleton]; rintro rfl; exact m3 hg), f1.get h.wr_ (by rw [List.mem_singleton]; exact m2.symm), f1, z1⟩

/-- Close of a Writer -/
theorem close_ok {B ob wr : Nat} {bd l : List UInt8} {k last : Option Nat} {H : Heap} (h : WS B ob wr bd k last l H) (hl : l.length + bd.length + 8 < 2 ^ 40) :
    CallsH Tryz.prog 35 #[.pointer (some ⟨wr, 0, none⟩)] H fun x H' => x = .nilIface ∧ ∃ k', BufAt ob k' (l ++ ([13, 10, 45, 45] ++ bd ++ [45, 45, 13, 10])) H' ∧ Frm (WS.ids ob wr k last) H H' := by
  obtain ⟨n1, n2, n3, n4⟩ := h.ne
  cases last with
  | none =>
    refine (close_nil h.wr_ h.buf hl).mono ?_
    rintro x H' ⟨rfl, k', h1, f, _⟩
    exact ⟨rfl, k', h1, f.mono WS.sub⟩
  | some p =>
    apply s35
    unfold c35
    refine ⟨fun _ H1 => BufAt ob k l H1 ∧ WrAt wr (.iface 58 (.pointer (some ⟨ob, 0, none⟩))) bd (.pointer none) H1 ∧ Frm (WS.ids ob wr k (some p)) H H1, ?_, ?_⟩
    · simp only [Fld_ptr, add_mk, Nat.zero_add, List.getElem?_toArray, List.getElem?_cons_succ, List.getElem?_cons_zero, Get_some, Br_true, Br_false, nth_zero, nth_one, nth_two, extractV_tuple, fieldAddrV_ptr, nilV_ptr, load1V_ptr, pickV_bool, unV_not, lenV_slice, capV_slice, cellH_of h.wr_, lastP, Option.map_some, nilV2_neq_ptr, Option.isNone_some, Bool.not_false]
      refine (closePart_ok h).mono ?_
      rintro x H1 ⟨rfl, hb1, hw1, f1, z1⟩
      simp only [nilV2_neq_nil, Fld_ptr, add_mk, Nat.zero_add, List.getElem?_toArray, List.getElem?_cons_succ, List.getElem?_cons_zero, Get_some, Br_true, Br_false, nth_zero, nth_one, nth_two, extractV_tuple, fieldAddrV_ptr, nilV_ptr, load1V_ptr, pickV_bool, unV_not, lenV_slice, capV_slice]
      refine Store_of hw1 (by simp) rfl fun H2 hw2 f2 z2 => ?_
      simp only [List.setIfInBounds_toArray, List.set_cons_succ, List.set_cons_zero] at hw2
      exact ⟨hb1.frm f2 (by simpa using n1) (fun g hg => by rw [List.mem_singleton]; rintro rfl; exact n3 hg), hw2, (f1.mono (by simp [WS.ids])).trans (f2.mono (by simp [WS.ids]))⟩
    · rintro _ H1 ⟨hb1, hw1, f1⟩
      have := close_core (R := fun x H' => x = .nilIface ∧ ∃ k', BufAt ob k' (l ++ ([13, 10, 45, 45] ++ bd ++ [45, 45, 13, 10])) H' ∧ Frm (WS.ids ob wr k (some p)) H H') hw1 hb1 hl fun k' H' h1 h2 h3 => ⟨rfl, k', h1, f1.trans (h2.mono WS.sub)⟩
      simp only [Fld_ptr, add_mk, Nat.zero_add, List.getElem?_toArray, List.getElem?_cons_succ, List.getElem?_cons_zero, Get_some, Br_true, Br_false, nth_zero, nth_one, nth_two, extractV_tuple, fieldAddrV_ptr, nilV_ptr, load1V_ptr, pickV_bool, unV_not, lenV_slice, capV_slice, cellH_of hw1] at this ⊢
      exact this

/-- io.Copy out of a buffer -/
theorem ioCopy_ok {b ob : Nat} {k ko : Option Nat} {l lo : List UInt8} {H : Heap} (h : BufAt b k l H) (ho : BufAt ob ko lo H) (hne : b ≠ ob) (hb1 : ko ≠ some b) (hb2 : k ≠ some ob) (hkk : ∀ g, k = some g → ko ≠ some g) (hl : l ≠ []) (hlen : lo.length + l.length < 2 ^ 40) :
    CallsH Tryz.prog 65 #[.iface 58 (.pointer (some ⟨ob, 0, none⟩)), .iface 58 (.pointer (some ⟨b, 0, none⟩))] H fun x H' => x = .tuple #[.int .i64 l.length, .nilIface] ∧ ∃ k', BufAt ob k' (lo ++ l) H' ∧ Frm (b :: ob :: ko.toList) H H' ∧ (k' = ko ∨ ∃ g, k' = some g ∧ H.size ≤ g) := by
  apply s65
  unfold c65
  apply s88
  unfold c88
  rw [tassertW]
  simp only [Fld_ptr, add_mk, Nat.zero_add, List.getElem?_toArray, List.getElem?_cons_succ, List.getElem?_cons_zero, Get_some, Br_true, Br_false, nth_zero, nth_one, nth_two, extractV_tuple, fieldAddrV_ptr, nilV_ptr, load1V_ptr, pickV_bool, unV_not, lenV_slice, capV_slice]
  refine invoke_of 210 meth58W body210 ?_
  refine (writeTo_ok h ho hne hb1 hb2 hkk hl hlen).mono ?_
  rintro x H' ⟨rfl, k', h1, f1, hk⟩
  simp only [Fld_ptr, add_mk, Nat.zero_add, List.getElem?_toArray, List.getElem?_cons_succ, List.getElem?_cons_zero, Get_some, Br_true, Br_false, nth_zero, nth_one, nth_two, extractV_tuple, fieldAddrV_ptr, nilV_ptr, load1V_ptr, pickV_bool, unV_not, lenV_slice, capV_slice]
  exact ⟨trivial, k', h1, f1, hk⟩
end Go.Cps

/-
  The laying of the shelf at this program: slices.Sorted(maps.Keys(m)); what it does at heap level.
  Conditions: the keys are different.
-/
namespace Go.Cps
open Go Go.Proofs Go.Shelf Go.RowKit Go.Maps Go.Sort
set_option maxRecDepth 100000
def layKeys_ren : Ren := ⟨fun x => match x with | 7 => 64 | 10 => 87 | n => n, fun x => match x with | 23 => 106 | 26 => 9 | 3 => 88 | 28 => 110 | 0 => 0 | 27 => 109 | 33 => 22 | 4 => 4 | n => n, fun n => n⟩
theorem layKeys : SlLaysZ.n7 Tryz.prog layKeys_ren :=
  { mixed := by kernel_rfl,
    f7 := ⟨"maps.Keys[loop.example/pub-mailparts/pub/textproto.MIMEHeader,string,[]string]", by kernel_rfl, by kernel_rfl⟩,
    f10 := ⟨"maps.Keys[loop.example/pub-mailparts/pub/textproto.MIMEHeader,string,[]string]$1", by kernel_rfl, by kernel_rfl⟩,
    t0 := by kernel_rfl,
    a0 := fun _ => by kernel_rfl,
    z0 := fun _ => by kernel_rfl,
    v0 := fun _ => by kernel_rfl,
    t4 := by kernel_rfl,
    a4 := fun _ => by kernel_rfl,
    z4 := fun _ => by kernel_rfl,
    v4 := fun _ => by kernel_rfl,
    t23 := by kernel_rfl,
    a23 := fun _ => by kernel_rfl,
    z23 := fun _ => by kernel_rfl,
    v23 := fun _ => by kernel_rfl,
    t26 := by kernel_rfl,
    a26 := fun _ => by kernel_rfl,
    z26 := fun _ => by kernel_rfl,
    v26 := fun _ => by kernel_rfl,
    t27 := by kernel_rfl,
    a27 := fun _ => by kernel_rfl,
    z27 := fun _ => by kernel_rfl,
    v27 := fun _ => by kernel_rfl,
    t28 := by kernel_rfl,
    a28 := fun _ => by kernel_rfl,
    z28 := fun _ => by kernel_rfl,
    v28 := fun _ => by kernel_rfl,
    t33 := by kernel_rfl,
    a33 := fun _ => by kernel_rfl,
    z33 := fun _ => by kernel_rfl,
    v33 := fun _ => by kernel_rfl }
def laySorted_ren : Ren := ⟨fun x => match x with | 6 => 63 | 8 => 85 | 9 => 86 | 11 => 104 | 13 => 106 | 12 => 105 | 23 => 132 | 24 => 133 | 14 => 123 | 15 => 124 | 16 => 125 | 17 => 126 | 18 => 127 | 19 => 128 | 20 => 129 | 21 => 130 | 22 => 131 | 25 => 149 | 26 => 150 | 27 => 151 | 28 => 152 | 29 => 153 | 30 => 154 | 31 => 162 | n => n, fun x => match x with | 26 => 9 | 28 => 110 | 24 => 88 | 0 => 0 | 3 => 3 | 37 => 170 | 48 => 204 | 50 => 206 | 4 => 4 | 40 => 198 | 39 => 197 | 45 => 141 | 5 => 5 | 9 => 9 | 51 => 225 | 55 => 229 | 57 => 245 | 58 => 246 | 33 => 22 | n => n, fun n => n⟩
theorem laySorted : SlLaysZ.n6 Tryz.prog laySorted_ren :=
  { mixed := by kernel_rfl,
    f6 := ⟨"slices.Sorted[string]", by kernel_rfl, by kernel_rfl⟩,
    f8 := ⟨"slices.Collect[string]", by kernel_rfl, by kernel_rfl⟩,
    f11 := ⟨"slices.AppendSeq[[]string,string]", by kernel_rfl, by kernel_rfl⟩,
    t0 := by kernel_rfl,
    a0 := fun _ => by kernel_rfl,
    z0 := fun _ => by kernel_rfl,
    v0 := fun _ => by kernel_rfl,
    t24 := by kernel_rfl,
    a24 := fun _ => by kernel_rfl,
    z24 := fun _ => by kernel_rfl,
    v24 := fun _ => by kernel_rfl,
    t26 := by kernel_rfl,
    a26 := fun _ => by kernel_rfl,
    z26 := fun _ => by kernel_rfl,
    v26 := fun _ => by kernel_rfl,
    t28 := by kernel_rfl,
    a28 := fun _ => by kernel_rfl,
    z28 := fun _ => by kernel_rfl,
    v28 := fun _ => by kernel_rfl,
    i26 := by kernel_rfl }

def laySort_ren : Ren := ⟨fun x => match x with | 6 => 86 | 8 => 106 | 9 => 105 | 19 => 132 | 20 => 133 | 21 => 123 | 22 => 124 | 23 => 125 | 24 => 126 | 25 => 127 | 26 => 128 | 27 => 129 | 28 => 130 | 29 => 131 | 36 => 149 | 31 => 150 | 32 => 151 | 37 => 152 | 38 => 153 | 39 => 154 | 41 => 162 | n => n, fun x => match x with | 27 => 88 | 29 => 9 | 3 => 3 | 32 => 170 | 26 => 88 | 0 => 0 | 44 => 204 | 46 => 206 | 4 => 4 | 36 => 198 | 35 => 197 | 41 => 141 | 5 => 5 | 9 => 9 | 53 => 225 | 57 => 229 | 63 => 245 | 64 => 246 | n => n, fun n => n⟩
theorem laySort : SlLaysM.n6 Tryz.prog laySort_ren :=
  { mixed := by kernel_rfl,
    f6 := ⟨"slices.Sort[[]string,string]", by kernel_rfl, by kernel_rfl⟩,
    f8 := by kernel_rfl,
    f9 := ⟨"slices.pdqsortOrdered[string]", by kernel_rfl, by kernel_rfl⟩,
    f19 := by kernel_rfl,
    f20 := by kernel_rfl,
    f21 := ⟨"slices.insertionSortOrdered[string]", by kernel_rfl, by kernel_rfl⟩,
    f22 := ⟨"slices.heapSortOrdered[string]", by kernel_rfl, by kernel_rfl⟩,
    f23 := ⟨"slices.breakPatternsOrdered[string]", by kernel_rfl, by kernel_rfl⟩,
    f24 := ⟨"slices.choosePivotOrdered[string]", by kernel_rfl, by kernel_rfl⟩,
    f25 := ⟨"slices.reverseRangeOrdered[string]", by kernel_rfl, by kernel_rfl⟩,
    f26 := ⟨"slices.partialInsertionSortOrdered[string]", by kernel_rfl, by kernel_rfl⟩,
    f27 := ⟨"cmp.Less[string]", by kernel_rfl, by kernel_rfl⟩,
    f28 := ⟨"slices.partitionEqualOrdered[string]", by kernel_rfl, by kernel_rfl⟩,
    f29 := ⟨"slices.partitionOrdered[string]", by kernel_rfl, by kernel_rfl⟩,
    f31 := by kernel_rfl,
    f32 := by kernel_rfl,
    f36 := ⟨"slices.siftDownOrdered[string]", by kernel_rfl, by kernel_rfl⟩,
    f37 := ⟨"slices.medianAdjacentOrdered[string]", by kernel_rfl, by kernel_rfl⟩,
    f38 := ⟨"slices.medianOrdered[string]", by kernel_rfl, by kernel_rfl⟩,
    f39 := ⟨"cmp.isNaN[string]", by kernel_rfl, by kernel_rfl⟩,
    f41 := ⟨"slices.order2Ordered[string]", by kernel_rfl, by kernel_rfl⟩,
    t0 := by kernel_rfl,
    a0 := fun _ => by kernel_rfl,
    z0 := fun _ => by kernel_rfl,
    v0 := fun _ => by kernel_rfl,
    t3 := by kernel_rfl,
    a3 := fun _ => by kernel_rfl,
    z3 := fun _ => by kernel_rfl,
    v3 := fun _ => by kernel_rfl,
    t4 := by kernel_rfl,
    a4 := fun _ => by kernel_rfl,
    z4 := fun _ => by kernel_rfl,
    v4 := fun _ => by kernel_rfl,
    t5 := by kernel_rfl,
    a5 := fun _ => by kernel_rfl,
    z5 := fun _ => by kernel_rfl,
    v5 := fun _ => by kernel_rfl,
    t9 := by kernel_rfl,
    a9 := fun _ => by kernel_rfl,
    z9 := fun _ => by kernel_rfl,
    v9 := fun _ => by kernel_rfl,
    t26 := by kernel_rfl,
    a26 := fun _ => by kernel_rfl,
    z26 := fun _ => by kernel_rfl,
    v26 := fun _ => by kernel_rfl,
    t27 := by kernel_rfl,
    a27 := fun _ => by kernel_rfl,
    z27 := fun _ => by kernel_rfl,
    v27 := fun _ => by kernel_rfl,
    t29 := by kernel_rfl,
    a29 := fun _ => by kernel_rfl,
    z29 := fun _ => by kernel_rfl,
    v29 := fun _ => by kernel_rfl,
    t32 := by kernel_rfl,
    a32 := fun _ => by kernel_rfl,
    z32 := fun _ => by kernel_rfl,
    v32 := fun _ => by kernel_rfl,
    t35 := by kernel_rfl,
    a35 := fun _ => by kernel_rfl,
    z35 := fun _ => by kernel_rfl,
    v35 := fun _ => by kernel_rfl,
    t36 := by kernel_rfl,
    a36 := fun _ => by kernel_rfl,
    z36 := fun _ => by kernel_rfl,
    v36 := fun _ => by kernel_rfl,
    t41 := by kernel_rfl,
    a41 := fun _ => by kernel_rfl,
    z41 := fun _ => by kernel_rfl,
    v41 := fun _ => by kernel_rfl,
    t44 := by kernel_rfl,
    a44 := fun _ => by kernel_rfl,
    z44 := fun _ => by kernel_rfl,
    v44 := fun _ => by kernel_rfl,
    t46 := by kernel_rfl,
    a46 := fun _ => by kernel_rfl,
    z46 := fun _ => by kernel_rfl,
    v46 := fun _ => by kernel_rfl,
    t53 := by kernel_rfl,
    a53 := fun _ => by kernel_rfl,
    z53 := fun _ => by kernel_rfl,
    v53 := fun _ => by kernel_rfl,
    t57 := by kernel_rfl,
    a57 := fun _ => by kernel_rfl,
    z57 := fun _ => by kernel_rfl,
    v57 := fun _ => by kernel_rfl,
    t63 := by kernel_rfl,
    a63 := fun _ => by kernel_rfl,
    z63 := fun _ => by kernel_rfl,
    v63 := fun _ => by kernel_rfl,
    t64 := by kernel_rfl,
    a64 := fun _ => by kernel_rfl,
    z64 := fun _ => by kernel_rfl,
    v64 := fun _ => by kernel_rfl }

theorem sortsIn63 (m : Nat) : AnyZ.SortsIn Tryz.prog laySorted_ren Fence.wide m :=
  ⟨fun blk off cap ss W hH hblk hsz => callsIn_wide.2 (AnyM.slices_Sort_string laySort blk off cap ss W hH hblk hsz),
   fun p cap W => callsIn_wide.2 (AnyM.slices_Sort_string_none laySort p cap W)⟩
theorem keys64 (mb : Option Nat) (W : World) : CallsIn Fence.wide 5 Tryz.prog 64 #[.map mb] W fun e w' => e = .returned (.func (.func 87) #[] #[.pointer (some ⟨W.heap.size, 0, none⟩)]) ∧ w' = W.alloc (.cells #[.map mb] 106) :=
  AnyZ.keys_in layKeys Fence.wide 5 trivial rfl mb W

def rAny (_ : Value) : Option (DataW Unit × List MemPlace) := some (.nil, [])
theorem strs_inj : ∀ {a b : List (List UInt8)}, True → a.map strVal = b.map strVal → a = b
  | [], [], _, _ => rfl
  | [], _ :: _, _, h => by simp at h
  | _ :: _, [], _, h => by simp at h
  | x :: a, y :: b, _, h => by
    simp only [List.map_cons, List.cons.injEq] at h
    have hxy : x = y := by simpa [strVal] using h.1
    rw [hxy, strs_inj trivial h.2]
theorem key9 {l : List UInt8} (h : l.length < 2 ^ 40) : Go.keyOf Tryz.prog 9 (strVal l) = some (.string l) := by
  have hs : (⟨l.toArray⟩ : ByteArray).size ≤ maxLen := by rw [bstr_size]; unfold maxLen; omega
  simp [Go.keyOf, mapKey, und9, strVal, hs]
theorem ents_own {H : Heap} {m N : Nat} {E : List Ent} (h : Ents H m N E) (hk : (E.map (·.key)).Nodup) (hl : ∀ e ∈ E, e.key.length < 2 ^ 40) (hn : E.length < 2 ^ 30) (w : World) (hw : w.heap = H) :
    ∃ D0 : DataW Unit, w.ownsMap Tryz.prog 9 rAny m E.length D0 ∧ (strKeys D0).Perm (E.map (·.key)) ∧ Maps.size D0 = E.length := by
  subst hw
  obtain ⟨es, c, h1, h2, h3, h4⟩ := h.map
  subst h4
  have hlen : es.size = E.length := by
    have := congrArg List.length h2
    simpa [entsOf] using this
  have hkeys : es.toList.map (·.key) = E.map fun e => strVal e.key := by
    have := congrArg (List.map (·.1)) h2
    simpa [entsOf, Function.comp_def, Ent.pair] using this
  have hrd : ∀ x ∈ es.toList, ∃ e ∈ E, x.key = strVal e.key ∧ Go.WideElems.rd Tryz.prog 9 rAny x = some (.string e.key, .nil) := fun x hx => by
    have : x.key ∈ E.map fun e => strVal e.key := by rw [← hkeys]; exact List.mem_map.2 ⟨x, hx, rfl⟩
    obtain ⟨e, he, hke⟩ := List.mem_map.1 this
    refine ⟨e, he, hke.symm, ?_⟩
    simp [Go.WideElems.rd, ← hke, key9 (hl e he), rAny]
  have hborn : ∀ x ∈ es.toList, x.born < es.size := fun x hx => by
    have : x.born ∈ es.toList.map (·.born) := List.mem_map.2 ⟨x, hx, rfl⟩
    rw [h3] at this
    exact List.mem_range.1 this
  have hinj : (es.toList.map (·.key)).Nodup := by
    rw [hkeys]
    have := List.Pairwise.map (f := fun l : List UInt8 => strVal l) (R := (· ≠ ·)) (S := (· ≠ ·)) (fun a b hab he => hab (by simpa [strVal] using he)) hk
    rw [List.map_map] at this
    exact this
  refine ⟨_, ⟨es, es.size, h1, ⟨by unfold maxLen; omega, ⟨hborn, by rw [h3]; exact List.nodup_range, hinj⟩, fun x hx => ?_⟩, by omega, rfl⟩, ?_, ?_⟩
  · obtain ⟨e, _, _, hr⟩ := hrd x hx
    exact ⟨_, hr⟩
  · have hp := Go.WideShapes.sorted_perm (es.toList.map (Go.WideElems.rg Tryz.prog 9 rAny))
    have hp2 := hp.map (fun p => strOf p.1)
    have e1 : (es.toList.map (Go.WideElems.rg Tryz.prog 9 rAny)).map (fun p => strOf p.1) = E.map (·.key) := by
      have e2 : (es.toList.map (Go.WideElems.rg Tryz.prog 9 rAny)).map (fun p => Value.string ⟨(strOf p.1).toArray⟩) = es.toList.map (·.key) := by
        rw [List.map_map]
        refine List.map_congr_left fun x hx => ?_
        obtain ⟨e, _, hke, hr⟩ := hrd x hx
        simp only [Function.comp_apply, Go.WideElems.rg_of hr, strOf, hke, strVal]
      have e3 : ((es.toList.map (Go.WideElems.rg Tryz.prog 9 rAny)).map (fun p => strOf p.1)).map strVal = (E.map (·.key)).map strVal := by
        rw [hkeys] at e2
        rw [List.map_map, List.map_map (f := fun e : Ent => e.key)]
        exact e2
      exact strs_inj trivial e3
    rw [e1] at hp2
    exact hp2
  · have hp := Go.WideShapes.sorted_perm (es.toList.map (Go.WideElems.rg Tryz.prog 9 rAny))
    show List.length _ = _
    rw [hp.length_eq]
    simpa using hlen

theorem sorted_eq {ss ks : List (List UInt8)} (h : ss.Perm ks) (hk : ks.Pairwise (· < ·)) : (ss.mergeSort fun x y => decide (x ≤ y)) = ks := by
  refine List.Perm.eq_of_pairwise (le := fun a b : List UInt8 => a ≤ b) (fun a b _ _ h1 h2 => List.le_antisymm h1 h2) ?_ (hk.imp fun h => List.le_of_lt h) ((List.mergeSort_perm _ _).trans h)
  have := List.pairwise_mergeSort (le := fun x y : List UInt8 => decide (x ≤ y)) (fun a b c h1 h2 => by simp only [decide_eq_true_eq] at *; exact List.le_trans h1 h2) (fun a b => by simpa using List.le_total a b) ss
  exact this.imp fun h => by simpa using h

theorem ownsRow_strs {w : World} {base : Nat} {D : List Nat} {v : Value} {l : List (List UInt8)} (h : w.ownsRow base 9 1 v l.length (l.map encStr)) (hD : ∀ x ∈ D, x < base) : StrsV D w.heap v l := by
  obtain ⟨_, ⟨rfl, h0⟩ | ⟨g, cap, cur, rfl, hbase, hg, h1, _, h2, h3⟩⟩ := h
  · exact .inr ⟨_, rfl, List.eq_nil_of_length_eq_zero h0⟩
  · refine .inl ⟨g, 0, cap, rfl, h1, fun hm => by have := hD g hm; omega, lt_of_some hg, fun j hj => ⟨[strVal l[j]], rfl, rfl, fun i hi => ?_⟩⟩
    have hi0 : i = 0 := by omega
    subst hi0
    rw [cellH_of hg]
    have : (cur.toList.take (l.length * 1))[j]? = (l.map encStr)[j]? := by rw [h3]
    rw [List.getElem?_take, if_pos (by omega), List.getElem?_map, List.getElem?_eq_getElem hj, Array.getElem?_toList] at this
    rw [show 0 + (j * 1 + 0) = j by omega, this]
    rfl

theorem sorted63 (n : Nat) (w : World) (b : Nat) (S : List (List UInt8) → Prop) (N : Nat) (hN : N ≤ maxLen) (hNb : N * 16 ≤ 140737488355328) (hseq : SeqGives Fence.wide 2 Tryz.prog 87 #[.pointer (some ⟨b, 0, none⟩)] encStr S N w) :
    CallsIn Fence.wide 5 Tryz.prog 63 #[.func (.func 87) #[] #[.pointer (some ⟨b, 0, none⟩)]] w fun e w' => ∃ (v : Value) (ss : List (List UInt8)), e = .returned v ∧ S ss ∧ w'.ownsRow w.heap.size 9 1 v ss.length ((ss.mergeSort (fun x y => decide (x ≤ y))).map encStr) ∧ (v = .slice none 0 0 ↔ ss = []) ∧ Go.RowKit.Below w.heap.size w w' :=
  AnyZ.sorted_in laySorted Fence.wide 5 trivial trivial trivial trivial rfl (by omega) (sortsIn63 _) (enters_of Tryz.func86 (by kernel_rfl) rfl) 87 #[.pointer (some ⟨b, 0, none⟩)] trivial (enters_of Tryz.func87 (by kernel_rfl) rfl) S N hN hNb w hseq

/-- slices.Sorted(maps.Keys(m)) -/
theorem keysSorted_ok {H : Heap} {m N : Nat} {E : List Ent} {ks : List (List UInt8)} {K : Value → Heap → Prop} (hE : Ents H m N E) (hks : (E.map (·.key)).Perm ks) (hs : ks.Pairwise (· < ·)) (hl : ∀ e ∈ E, e.key.length < 2 ^ 40) (hn : E.length < 2 ^ 30) {D : List Nat} (hD : ∀ x ∈ D, x < H.size)
    (hK : ∀ v H', StrsV D H' v ks → Frm [] H H' → K v H') :
    CallsH Tryz.prog 64 #[.map (some m)] H fun x48 H => CallsH Tryz.prog 63 #[x48] H K := by
  have hnd : (E.map (·.key)).Nodup := hks.symm.nodup (hs.imp fun h e => by rw [e] at h; exact List.lt_irrefl _ h)
  intro w hw
  refine ((callsIn_wide (n := 5)).1 (keys64 (some m) w)).mono ?_
  rintro e w1 ⟨rfl, rfl⟩
  have hh1 : (w.alloc (.cells #[.map (some m)] 106)).heap = w.heap.push (.cells #[.map (some m)] 106 (0, 0)) := rfl
  have f1 : Frm [] H (w.alloc (.cells #[.map (some m)] 106)).heap := by rw [hh1, hw]; exact Frm.push _ _ _
  refine ⟨_, rfl, ⟨rfl, rfl, rfl⟩, ?_⟩
  generalize hw1 : w.alloc (.cells #[.map (some m)] 106) = w1 at *
  intro w2 hw2
  have hE2 : Ents w2.heap m N E := by rw [hw2]; exact hE.frm f1 (by simp)
  obtain ⟨D0, hown, hperm, hsize⟩ := ents_own hE2 hnd hl hn w2 rfl
  have hcell : w2.cell? ⟨w.heap.size, 0, none⟩ = some (.map (some m)) := by
    rw [cellH_eq, hw2, hh1, cellH_of (push_same _ _)]
    rfl
  have hlt : w.heap.size < w2.heap.size := by rw [hw2, hh1]; simp
  have hseq : SeqGives Fence.wide 2 Tryz.prog 87 #[.pointer (some ⟨w.heap.size, 0, none⟩)] encStr (fun ss => ss.Perm (strKeys D0)) (Maps.size D0) w2 :=
    AnyZ.keys_gives (ρ := layKeys_ren) { layKeys with } Fence.wide _ trivial rfl (by omega) w.heap.size m E.length D0 w2 hlt hcell hown
  refine ((callsIn_wide (n := 5)).1 (sorted63 5 w2 w.heap.size _ _ (by rw [hsize]; unfold maxLen; omega) (by rw [hsize]; omega) hseq)).mono ?_
  rintro e w3 ⟨v, ss, rfl, hS, hrow, _, hb⟩
  obtain ⟨hsame, hfr⟩ := below_frm rfl hb
  have hsk : ss.Perm ks := (hS.trans hperm).trans hks
  rw [sorted_eq hsk hs, hsk.length_eq] at hrow
  refine ⟨v, rfl, hsame, hK v _ (ownsRow_strs hrow (fun x hx => by have := hD x hx; rw [← hw] at this; omega)) (f1.trans ?_)⟩
  rw [← hw2]
  exact hfr
end Go.Cps
