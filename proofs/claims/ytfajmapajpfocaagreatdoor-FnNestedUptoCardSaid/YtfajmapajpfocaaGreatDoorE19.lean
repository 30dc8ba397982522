/-
  A part of the proof (its texts: L38, L40, L41, L51, L52, GB, L42): each text says below what it proves.
  Conditions: each contract's own.
-/
import Derived.Maps.RangeRun
import Derived.Test.YtfajmapajpfocaaGreatDoorE4
import Derived.Test.YtfajmapajpfocaaGreatDoorE18
set_option linter.all false
/-
  The look at a value's bytes.
  Conditions: each byte may stand in a value.
-/
namespace Go.Cps
open Go Go.Proofs

theorem valLoop_ok {z : Value} {v : List UInt8} {H : Heap} {E X : Heap → Prop} (hz : IsBytes H z v) (hv : ∀ b ∈ v, printV b.toNat = true) (hl : v.length < 2 ^ 30) (hX : X H) :
    Get (lenV z) fun x104 =>
    Loop [(.int .i64 0)] H fun K9 vs10 H =>
    Get (arithV .lss .i64 (nth vs10 0) x104) fun x106 =>
    Br x106 (
    Get (elemAddrV 1 z (nth vs10 0)) fun x107 =>
    Get (load1V x107 H) fun x108 =>
    CallsH Tryz.prog 171 #[x108] H fun x110 H =>
    Get (unV .not x110) fun x111 =>
    Br x111 (E H) (
    Get (arithV .add .i64 (nth vs10 0) (.int .i64 1)) fun x114 =>
    K9 [x114] H)) (X H) := by
  simp only [hz.len, Get_some]
  refine ⟨fun n vs H' => ∃ i : Nat, vs = [.int .i64 i] ∧ n = v.length - i ∧ i ≤ v.length ∧ H' = H, ⟨_, 0, rfl, rfl, Nat.zero_le _, rfl⟩, ?_⟩
  rintro n vs H ⟨i, rfl, rfl, hi, rfl⟩
  have dd : ∀ a b : Nat, decide ((a : Int) < (b : Int)) = decide (a < b) := fun a b => by simp
  simp only [Fld_ptr, add_mk, Nat.zero_add, List.getElem?_toArray, List.getElem?_cons_succ, List.getElem?_cons_zero, Get_some, Br_true, Br_false, nth_zero, nth_one, nth_two, extractV_tuple, fieldAddrV_ptr, nilV_ptr, load1V_ptr, pickV_bool, unV_not, lenV_slice, capV_slice, arithV_add, arithV_sub, arithV_eql, arithV_neq, arithV_lss, arithV_leq, arithV_gtr, arithV_geq, intConvV_int, dd]
  refine Br_intro (fun hlt => ?_) (fun hlt => hX)
  have hlt' : i < v.length := by simpa using hlt
  obtain ⟨a, ha, hca⟩ := elem_at hz hlt' (by omega)
  simp only [ha, Fld_ptr, add_mk, Nat.zero_add, List.getElem?_toArray, List.getElem?_cons_succ, List.getElem?_cons_zero, Get_some, Br_true, Br_false, nth_zero, nth_one, nth_two, extractV_tuple, fieldAddrV_ptr, nilV_ptr, load1V_ptr, pickV_bool, unV_not, lenV_slice, capV_slice, hca]
  refine valueByte_ok.mono ?_
  rintro x H1 ⟨rfl, rfl⟩
  have e1 : IntKind.i64.wrap ((i : Int) + 1) = ((i + 1 : Nat) : Int) := by rw [wrap_i64 (by omega) (by omega)]; omega
  simp only [Fld_ptr, add_mk, Nat.zero_add, List.getElem?_toArray, List.getElem?_cons_succ, List.getElem?_cons_zero, Get_some, Br_true, Br_false, nth_zero, nth_one, nth_two, extractV_tuple, fieldAddrV_ptr, nilV_ptr, load1V_ptr, pickV_bool, unV_not, lenV_slice, capV_slice, hv _ (List.getElem_mem hlt'), Bool.not_true, arithV_add, arithV_sub, arithV_eql, arithV_neq, arithV_lss, arithV_leq, arithV_gtr, arithV_geq, intConvV_int, e1]
  exact ⟨_, by omega, i + 1, rfl, rfl, hlt', trivial⟩
end Go.Cps

/-
  The entries of a header's map: each key's values in a window of a row of strings; one value more.
  Conditions: each contract's own.
-/
namespace Go.Cps
open Go Go.Proofs

/-- a key and where its values lie -/
structure Ent where
  key : List UInt8
  b : Nat
  o : Nat
  c : Nat
  vs : List (List UInt8)
def Ent.pair (e : Ent) : List UInt8 × Value := (e.key, .slice (some ⟨e.b, e.o, none⟩) e.vs.length e.c)
def Ent.hd (e : Ent) : List UInt8 × List (List UInt8) := (e.key, e.vs)
def Ent.off (e f : Ent) : Prop := e.b ≠ f.b ∨ e.o + e.c ≤ f.o ∨ f.o + f.c ≤ e.o
theorem Ent.off.symm {e f : Ent} (h : e.off f) : f.off e := by
  rcases h with h | h | h
  · exact .inl h.symm
  · exact .inr (.inr h)
  · exact .inr (.inl h)

/-- one value more -/
def addH (k v : List UInt8) : List (List UInt8 × List (List UInt8)) → List (List UInt8 × List (List UInt8))
  | [] => [(k, [v])]
  | p :: r => if p.1 = k then (p.1, p.2 ++ [v]) :: r else p :: addH k v r

structure Ents (H : Heap) (m N : Nat) (E : List Ent) : Prop where
  map : MapAt H m (E.map Ent.pair)
  strs : ∀ e ∈ E, StrsAt H e.b e.o e.c e.vs
  apart : E.Pairwise Ent.off
  few : ∀ e ∈ E, e.vs.length ≤ N

def Ents.blks (m : Nat) (E : List Ent) : List Nat := m :: E.map (·.b)

theorem Ents.frm {H H' : Heap} {m N : Nat} {E : List Ent} {X : List Nat} (h : Ents H m N E) (f : Frm X H H') (hx : ∀ x ∈ Ents.blks m E, x ∉ X) : Ents H' m N E :=
  ⟨h.map.frm f (hx m (by simp [Ents.blks])), fun e he => (h.strs e he).frm f (hx _ (by simp only [Ents.blks, List.mem_cons, List.mem_map]; exact .inr ⟨e, he, rfl⟩)), h.apart, h.few⟩

/-- what is left of the row of strings that is cut up -/
def Left (H : Heap) (E : List Ent) (st : Value) (n : Nat) (sb : Option Nat) : Prop := ∃ a, st = .slice a n n ∧ (n = 0 ∨ ∃ b o, sb = some b ∧ a = some ⟨b, o, none⟩ ∧ (∃ cells : Array Value, H[b]? = some (.cells cells 9 (0, 0)) ∧ o + n ≤ cells.size) ∧ ∀ e ∈ E, e.b ≠ b ∨ e.o + e.c ≤ o)
theorem Left.frm {H H' : Heap} {E : List Ent} {st : Value} {n : Nat} {sb : Option Nat} {X : List Nat} (h : Left H E st n sb) (f : Frm X H H') (hx : ∀ b, sb = some b → b ∉ X) : Left H' E st n sb := by
  obtain ⟨a, h1, h2⟩ := h
  refine ⟨a, h1, ?_⟩
  rcases h2 with h2 | ⟨b, o, h2, h3, ⟨cells, h4, h5⟩, h6⟩
  · exact .inl h2
  · exact .inr ⟨b, o, h2, h3, ⟨cells, f.get h4 (hx b h2), h5⟩, h6⟩

theorem getE_none {k : List UInt8} : ∀ {E : List Ent}, getE k (E.map Ent.pair) = none → (∀ v, addH k v (E.map Ent.hd) = E.map Ent.hd ++ [(k, [v])]) ∧ ∀ v, setE k v (E.map Ent.pair) = E.map Ent.pair ++ [(k, v)]
  | [], _ => ⟨fun _ => rfl, fun _ => rfl⟩
  | e :: r, h => by
    simp only [List.map_cons, getE] at h
    split at h
    · cases h
    · rename_i hk
      obtain ⟨h1, h2⟩ := getE_none h
      have hk' : ¬ e.key = k := hk
      refine ⟨fun v => ?_, fun v => ?_⟩
      · simp only [List.map_cons, addH, Ent.hd, if_neg hk', List.cons_append]
        rw [h1]
      · simp only [List.map_cons, setE, Ent.pair, if_neg hk', List.cons_append]
        rw [h2]

theorem getE_some {k : List UInt8} {u : Value} : ∀ {E : List Ent}, getE k (E.map Ent.pair) = some u → ∃ A e B, E = A ++ e :: B ∧ e.key = k ∧ u = e.pair.2 ∧ (∀ v, addH k v (E.map Ent.hd) = A.map Ent.hd ++ (k, e.vs ++ [v]) :: B.map Ent.hd) ∧ ∀ v, setE k v (E.map Ent.pair) = A.map Ent.pair ++ (k, v) :: B.map Ent.pair
  | [], h => by cases h
  | e :: r, h => by
    simp only [List.map_cons, getE] at h
    split at h
    · rename_i hk
      cases h
      have hk' : e.key = k := hk
      exact ⟨[], e, r, rfl, hk', rfl, fun v => by simp [addH, Ent.hd, hk'], fun v => by simp [setE, Ent.pair, hk']⟩
    · rename_i hk
      have hk' : ¬ e.key = k := hk
      obtain ⟨A, e', B, rfl, h1, h2, h3, h4⟩ := getE_some h
      refine ⟨e :: A, e', B, rfl, h1, h2, fun v => ?_, fun v => ?_⟩
      · have := h3 v
        rw [List.map_cons, addH, if_neg (by exact hk'), this]; rfl
      · have := h4 v
        rw [List.map_cons, setE, if_neg (by exact hk'), this]; rfl
end Go.Cps

/-
  One value more in a header's map: out of the row that is cut up, or by append.
  Conditions: each contract's own.
-/
namespace Go.Cps
open Go Go.Proofs

theorem sliceV_cap {a : Option Addr} {n c size hi mx : Nat} (h2 : hi ≤ mx) (h3 : mx ≤ c) (k' k2 : IntKind) : sliceV size (.slice a n c) none (some (.int k' hi)) (some (.int k2 mx)) = some (.slice a hi mx) := by
  have e0 : boundV (some (.int k2 mx)) c c = some mx := by simp [boundV]; omega
  have e1 : boundV (some (.int k' hi)) n mx = some hi := by simp [boundV]; omega
  have e2 : boundV none 0 hi = some 0 := rfl
  simp only [sliceV, boundsV, e0, e1, e2, Nat.zero_mul, Nat.sub_zero, Option.some.injEq, Value.slice.injEq, and_true]
  split
  · rfl
  · cases a with
    | none => rfl
    | some a => simp [Addr.add]

theorem cutStr_ok {H : Heap} {m n N : Nat} {E : List Ent} {st : Value} {sb : Option Nat} {k v : List UInt8} {K : Value → Heap → Prop} (hE : Ents H m N E) (hL : Left H E st n sb) (hn : 0 < n) (hg : getE k (E.map Ent.pair) = none) (hm : sb ≠ some m)
    (hK : ∀ E' st' H', Ents H' m (N + 1) E' → E'.map Ent.hd = addH k v (E.map Ent.hd) → Left H' E' st' (n - 1) sb → Frm (m :: sb.toList) H H' → H'.size = H.size → (∀ x ∈ Ents.blks m E', x ∈ Ents.blks m E ∨ sb = some x) → K st' H') :
    Get (sliceV 1 st none (some (.int .i64 1)) (some (.int .i64 1))) fun x150 =>
    Get (sliceV 1 st (some (.int .i64 1)) none none) fun x152 =>
    Get (elemAddrV 1 x150 (.int .i64 0)) fun x155 =>
    Get (store1V x155 (strVal v) H) fun H =>
    ExecV Tryz.prog (do Instr.mapUpdate 106 (.map (some m)) (strVal k) x150; pure undef) H fun _ H => K x152 H := by
  obtain ⟨a, rfl, hL⟩ := hL
  rcases hL with h0 | ⟨b, o, rfl, rfl, ⟨cells, hc, ho⟩, hoff⟩
  · omega
  have e1 : sliceV 1 (.slice (some ⟨b, o, none⟩) n n) none (some (.int .i64 1)) (some (.int .i64 1)) = some (.slice (some ⟨b, o, none⟩) 1 1) := sliceV_cap (hi := 1) (mx := 1) (Nat.le_refl _) (by omega) .i64 .i64
  have e2 : sliceV 1 (.slice (some ⟨b, o, none⟩) n n) (some (.int .i64 1)) none none = some (.slice (if n = 1 then some ⟨b, o, none⟩ else some ⟨b, o + 1, none⟩) (n - 1) (n - 1)) := by
    have := sliceV_lo (a := some ⟨b, o, none⟩) (n := n) (c := n) (size := 1) (lo := 1) (by omega) .i64
    simpa using this
  have e3 : elemAddrV 1 (.slice (some ⟨b, o, none⟩) 1 1) (.int .i64 0) = some (.pointer (some ⟨b, o, none⟩)) := by
    have := elemAddr_of (b := b) (o := o) (n := 1) (c := 1) (size := 1) (k := .i64) (i := 0) (by omega) (by omega)
    simpa using this
  simp only [e1, e2, e3, Get_some]
  refine Store_of hc (by omega) rfl fun H1 hc1 f1 z1 => ?_
  have hbm : b ≠ m := fun e => hm (by rw [e])
  have hmap1 := hE.map.frm f1 (by simpa using hbm.symm)
  obtain ⟨hs1, hs2⟩ := getE_none hg
  obtain ⟨H2, hm2, f2, z2, hex⟩ := update_of und106 (k := k) (v := .slice (some ⟨b, o, none⟩) 1 1) hmap1
  rw [hex]
  have hc2 := f2.get hc1 (by simpa using hbm)
  have hnew : StrsAt H2 b o 1 [v] := ⟨_, hc2, by simp, by simp; omega, fun j hj => by
    simp only [List.length_singleton] at hj
    have : j = 0 := by omega
    subst this
    rw [Nat.add_zero, Array.getElem?_setIfInBounds, if_pos rfl, if_pos (by omega)]; rfl⟩
  have hne : ∀ e ∈ E, e.b ≠ m := fun e he hh => by
    obtain ⟨cs, hcs, _⟩ := hE.strs e he
    obtain ⟨es, c, hm0, _⟩ := hE.map
    rw [hh, hm0] at hcs
    cases hcs
  refine hK (E ++ [⟨k, b, o, 1, [v]⟩]) _ _ ⟨?_, fun e he => ?_, ?_, ?_⟩ ?_ ?_ ?_ (by omega) ?_
  · rw [hs2] at hm2
    simpa [Ent.pair] using hm2
  · rcases List.mem_append.1 he with he | he
    · exact ((hE.strs e he).keep hc hc1 f1 (by rcases hoff e he with h | h; exact .inl h; exact .inr (.inr h))).frm f2 (by simpa using hne e he)
    · rw [List.mem_singleton] at he
      subst he
      exact hnew
  · rw [List.pairwise_append]
    refine ⟨hE.apart, by simp, fun e he e' he' => ?_⟩
    rw [List.mem_singleton] at he'
    subst he'
    rcases hoff e he with h | h
    · exact .inl h
    · exact .inr (.inl h)
  · intro e he
    rcases List.mem_append.1 he with he | he
    · exact Nat.le_succ_of_le (hE.few e he)
    · rw [List.mem_singleton] at he; subst he; simp
  · rw [hs1]; simp [Ent.hd]
  · refine ⟨_, rfl, ?_⟩
    by_cases h1 : n = 1
    · exact .inl (by omega)
    · refine .inr ⟨b, o + 1, rfl, by rw [if_neg h1], ⟨_, hc2, by simp; omega⟩, fun e he => ?_⟩
      rcases List.mem_append.1 he with he | he
      · rcases hoff e he with h | h
        · exact .inl h
        · exact .inr (by omega)
      · rw [List.mem_singleton] at he
        subst he
        exact .inr (Nat.le_refl _)
  · exact (f1.mono (by simp)).trans (f2.mono (by simp))
  · intro x hx
    simp only [Ents.blks, List.map_append, List.mem_cons, List.mem_append, List.map_cons, List.map_nil, List.not_mem_nil, or_false] at hx ⊢
    rcases hx with h | h | h
    · exact .inl (.inl h)
    · exact .inl (.inr h)
    · exact .inr (by rw [h])

theorem pairwise_mid {α : Type} {R : α → α → Prop} (hs : ∀ {a b}, R a b → R b a) {A B : List α} {x : α} (h : (A ++ x :: B).Pairwise R) : ∀ y ∈ A ++ B, R y x := by
  rw [List.pairwise_append] at h
  obtain ⟨_, h2, h3⟩ := h
  rw [List.pairwise_cons] at h2
  intro y hy
  rcases List.mem_append.1 hy with hy | hy
  · exact h3 y hy x (by simp)
  · exact hs (h2.1 y hy)
theorem pairwise_put {α : Type} {R : α → α → Prop} (hs : ∀ {a b}, R a b → R b a) {A B : List α} {x z : α} (h : (A ++ x :: B).Pairwise R) (hz : ∀ y ∈ A ++ B, R y z) : (A ++ z :: B).Pairwise R := by
  rw [List.pairwise_append] at h ⊢
  obtain ⟨h1, h2, h3⟩ := h
  rw [List.pairwise_cons] at h2 ⊢
  refine ⟨h1, ⟨fun y hy => hs (hz y (by simp [hy])), h2.2⟩, fun y hy w hw => ?_⟩
  rcases List.mem_cons.1 hw with rfl | hw
  · exact hz y (by simp [hy])
  · exact h3 y hy w (by simp [hw])

theorem fill1 {v : Value} (hv : isOne v = true) {z : Value} : Instr.fill (fun j => some (j * 1, 1)) ((Array.range (1 * 1)).map ((#[z] : Array Value)[· % 1]!)) [(0, v)] = some #[v] := by
  have e0 : ((Array.range (1 * 1)).map ((#[z] : Array Value)[· % 1]!)) = #[z] := by
    have : (Array.range (1 * 1)) = #[0] := by decide
    rw [this]
    simp
  rw [e0, fill_cons (off := 0) hv rfl (by simp)]
  rfl

theorem appStr_ok {H : Heap} {m n N : Nat} {E : List Ent} {st : Value} {sb : Option Nat} {k v : List UInt8} {K : Heap → Prop} (hE : Ents H m N E) (hL : Left H E st n sb) (hblt : ∀ b, sb = some b → b < H.size) (hN : N < 2 ^ 39)
    (hK : ∀ E' H', Ents H' m (N + 1) E' → E'.map Ent.hd = addH k v (E.map Ent.hd) → Left H' E' st n sb → Frm (Ents.blks m E) H H' → (∀ x ∈ Ents.blks m E', x ∈ Ents.blks m E ∨ H.size ≤ x) → K H') :
    Get (Instr.fill (fun j => some (j * 1, 1)) ((Array.range (1 * 1)).map ((#[(.string ⟨#[]⟩)] : Array Value)[· % 1]!)) [(0, strVal v)]) fun cs => NewSl cs 9 1 H fun x163 H =>
    Append 9 1 16 #[(.string ⟨#[]⟩)] ((getE k (E.map Ent.pair)).getD (.slice none 0 0)) x163 H fun x164 H =>
    ExecV Tryz.prog (do Instr.mapUpdate 106 (.map (some m)) (strVal k) x164; pure undef) H fun _ H => K H := by
  rw [fill1 (v := strVal v) rfl, Get_some, NewSl]
  have f1 : Frm [] H (H.push (.cells #[strVal v] 9 (0, 0))) := Frm.push _ _ _
  have hx1 : cellH (H.push (.cells #[strVal v] 9 (0, 0))) ⟨H.size, 0, none⟩ = some (strVal v) := by rw [cellH_of (push_same _ _)]; rfl
  have z1 : (H.push (.cells #[strVal v] 9 (0, 0))).size = H.size + 1 := by simp
  generalize H.push (.cells #[strVal v] 9 (0, 0)) = H1 at *
  have hE1 : Ents H1 m N E := hE.frm f1 (by simp)
  have hL1 : Left H1 E st n sb := hL.frm f1 (by simp)
  have hne : ∀ e ∈ E, e.b ≠ m := fun e he hh => by
    obtain ⟨cs, hcs, _⟩ := hE.strs e he
    obtain ⟨es, c, hm0, _⟩ := hE.map
    rw [hh, hm0] at hcs
    cases hcs
  have hblk : ∀ e ∈ E, e.b < H.size := fun e he => by
    obtain ⟨cs, hcs, _⟩ := hE.strs e he
    exact lt_of_some hcs
  have hml : m < H.size := by
    obtain ⟨es, c, hm0, _⟩ := hE.map
    exact lt_of_some hm0
  cases hg : getE k (E.map Ent.pair) with
  | none =>
    obtain ⟨hs1, hs2⟩ := getE_none hg
    simp only [Option.getD_none]
    refine append_str_nil hx1 fun H2 c' f2 hs z2 => ?_
    have hE2 := hE1.frm f2 (by simp)
    obtain ⟨H3, hm3, f3, z3, hex⟩ := update_of und106 (k := k) (v := .slice (some ⟨H1.size, 0, none⟩) 1 c') hE2.map
    rw [hex]
    have hsb : ∀ b, sb = some b → b ∉ ([m] : List Nat) ∨ True := fun _ _ => .inr trivial
    refine hK (E ++ [⟨k, H1.size, 0, c', [v]⟩]) _ ⟨?_, fun e he => ?_, ?_, ?_⟩ ?_ ?_ ?_ ?_
    · rw [hs2] at hm3; simpa [Ent.pair] using hm3
    · rcases List.mem_append.1 he with he | he
      · exact (hE2.strs e he).frm f3 (by simpa using hne e he)
      · rw [List.mem_singleton] at he
        subst he
        exact hs.frm f3 (by rw [List.mem_singleton]; omega)
    · rw [List.pairwise_append]
      refine ⟨hE.apart, by simp, fun e he e' he' => ?_⟩
      rw [List.mem_singleton] at he'
      subst he'
      exact .inl (by have := hblk e he; show e.b ≠ H1.size; omega)
    · intro e he
      rcases List.mem_append.1 he with he | he
      · exact Nat.le_succ_of_le (hE.few e he)
      · rw [List.mem_singleton] at he; subst he; simp
    · rw [hs1]; simp [Ent.hd]
    · obtain ⟨a, h1, h2⟩ := hL1.frm f2 (by simp)
      refine ⟨a, h1, ?_⟩
      rcases h2 with h2 | ⟨b, o, h2, h3, ⟨cells, h4, h5⟩, h6⟩
      · exact .inl h2
      · refine .inr ⟨b, o, h2, h3, ⟨cells, f3.get h4 (fun hmm => ?_), h5⟩, fun e he => ?_⟩
        · rw [List.mem_singleton] at hmm
          obtain ⟨es, c, hm0, _⟩ := hE2.map
          rw [hmm, hm0] at h4
          cases h4
        · rcases List.mem_append.1 he with he | he
          · exact h6 e he
          · rw [List.mem_singleton] at he
            subst he
            have := hblt b h2
            exact .inl (by show H1.size ≠ b; omega)
    · exact ((f1.mono (by simp)).trans (f2.mono (by simp))).trans (f3.mono (by simp [Ents.blks]))
    · intro x hx
      simp only [Ents.blks, List.map_append, List.mem_cons, List.mem_append, List.map_cons, List.map_nil, List.not_mem_nil, or_false] at hx ⊢
      rcases hx with h | h | h
      · exact .inl (.inl h)
      · exact .inl (.inr h)
      · exact .inr (by show H.size ≤ x; rw [h]; show H.size ≤ H1.size; omega)
  | some u =>
    obtain ⟨A, e, B, rfl, rfl, rfl, hs1, hs2⟩ := getE_some hg
    simp only [Option.getD_some, Ent.pair]
    have hse := hE1.strs e (by simp)
    have hother : ∀ y ∈ A ++ B, y.off e := pairwise_mid (fun h => h.symm) hE.apart
    have hfew := hE.few e (by simp)
    have hmemAB : ∀ y, y ∈ A ++ B → y ∈ A ++ e :: B := fun y hy => by
      rcases List.mem_append.1 hy with h | h <;> simp [h]
    refine append_str hse hx1 (by omega) (fun H2 cells hc1 hc2 f2 z2 hlt hs => ?_) (fun H2 c' f2 hs z2 => ?_)
    · have hmap2 := hE1.map.frm f2 (by simpa using (hne e (by simp)).symm)
      obtain ⟨H3, hm3, f3, z3, hex⟩ := update_of und106 (k := e.key) (v := .slice (some ⟨e.b, e.o, none⟩) (e.vs.length + 1) e.c) hmap2
      rw [hex]
      refine hK (A ++ ⟨e.key, e.b, e.o, e.c, e.vs ++ [v]⟩ :: B) _ ⟨?_, fun y hy => ?_, ?_, ?_⟩ ?_ ?_ ?_ ?_
      · rw [hs2] at hm3; simpa [Ent.pair] using hm3
      · rcases List.mem_append.1 hy with hy | hy
        · have hy' := hmemAB y (by simp [hy])
          have ho := hother y (by simp [hy])
          refine ((hE1.strs y hy').keep hc1 hc2 f2 ?_).frm f3 (by simpa using hne y hy')
          rcases ho with h | h | h
          · exact .inl h
          · exact .inr (.inr (by omega))
          · exact .inr (.inl (by omega))
        · rcases List.mem_cons.1 hy with rfl | hy
          · exact hs.frm f3 (by simpa using hne e (by simp))
          · have hy' := hmemAB y (by simp [hy])
            have ho := hother y (by simp [hy])
            refine ((hE1.strs y hy').keep hc1 hc2 f2 ?_).frm f3 (by simpa using hne y hy')
            rcases ho with h | h | h
            · exact .inl h
            · exact .inr (.inr (by omega))
            · exact .inr (.inl (by omega))
      · exact pairwise_put (fun h => h.symm) hE.apart hother
      · intro y hy
        rcases List.mem_append.1 hy with hy | hy
        · exact Nat.le_succ_of_le (hE.few y (by simp [hy]))
        · rcases List.mem_cons.1 hy with rfl | hy
          · simpa using hfew
          · exact Nat.le_succ_of_le (hE.few y (by simp [hy]))
      · rw [hs1]; simp [Ent.hd]
      · obtain ⟨a, h1, h2⟩ := hL1
        refine ⟨a, h1, ?_⟩
        rcases h2 with h2 | ⟨b, o, h2, h3, ⟨cs, h4, h5⟩, h6⟩
        · exact .inl h2
        · have hbm : b ∉ [m] := fun hmm => by
            rw [List.mem_singleton] at hmm
            obtain ⟨es, c, hm0, _⟩ := hE1.map
            rw [hmm, hm0] at h4
            cases h4
          refine .inr ⟨b, o, h2, h3, ?_, fun y hy => ?_⟩
          · by_cases hbe : b = e.b
            · subst hbe
              rw [hc1] at h4; cases h4
              exact ⟨_, f3.get hc2 hbm, by simpa using h5⟩
            · exact ⟨cs, f3.get (f2.get h4 (by simpa using hbe)) hbm, h5⟩
          · rcases List.mem_append.1 hy with hy | hy
            · exact h6 y (by simp [hy])
            · rcases List.mem_cons.1 hy with rfl | hy
              · exact h6 e (by simp)
              · exact h6 y (by simp [hy])
      · exact ((f1.mono (by simp)).trans (f2.mono (by simp [Ents.blks]))).trans (f3.mono (by simp [Ents.blks]))
      · intro x hx
        simp only [Ents.blks, List.map_append, List.mem_cons, List.mem_append, List.map_cons] at hx ⊢
        exact .inl hx
    · have hE2 := hE1.frm f2 (by simp)
      obtain ⟨H3, hm3, f3, z3, hex⟩ := update_of und106 (k := e.key) (v := .slice (some ⟨H1.size, 0, none⟩) (e.vs.length + 1) c') hE2.map
      rw [hex]
      have hnew : ∀ y ∈ A ++ B, y.off ⟨e.key, H1.size, 0, c', e.vs ++ [v]⟩ := fun y hy => .inl (by have := hblk y (hmemAB y hy); show y.b ≠ H1.size; omega)
      refine hK (A ++ ⟨e.key, H1.size, 0, c', e.vs ++ [v]⟩ :: B) _ ⟨?_, fun y hy => ?_, ?_, ?_⟩ ?_ ?_ ?_ ?_
      · rw [hs2] at hm3; simpa [Ent.pair] using hm3
      · rcases List.mem_append.1 hy with hy | hy
        · have hy' := hmemAB y (by simp [hy])
          exact (hE2.strs y hy').frm f3 (by simpa using hne y hy')
        · rcases List.mem_cons.1 hy with rfl | hy
          · exact hs.frm f3 (by rw [List.mem_singleton]; omega)
          · have hy' := hmemAB y (by simp [hy])
            exact (hE2.strs y hy').frm f3 (by simpa using hne y hy')
      · exact pairwise_put (fun h => h.symm) hE.apart hnew
      · intro y hy
        rcases List.mem_append.1 hy with hy | hy
        · exact Nat.le_succ_of_le (hE.few y (by simp [hy]))
        · rcases List.mem_cons.1 hy with rfl | hy
          · simpa using hfew
          · exact Nat.le_succ_of_le (hE.few y (by simp [hy]))
      · rw [hs1]; simp [Ent.hd]
      · obtain ⟨a, h1, h2⟩ := hL1.frm f2 (by simp)
        refine ⟨a, h1, ?_⟩
        rcases h2 with h2 | ⟨b, o, h2, h3, ⟨cs, h4, h5⟩, h6⟩
        · exact .inl h2
        · refine .inr ⟨b, o, h2, h3, ⟨cs, f3.get h4 (fun hmm => ?_), h5⟩, fun y hy => ?_⟩
          · rw [List.mem_singleton] at hmm
            obtain ⟨es, c, hm0, _⟩ := hE2.map
            rw [hmm, hm0] at h4
            cases h4
          · rcases List.mem_append.1 hy with hy | hy
            · exact h6 y (by simp [hy])
            · rcases List.mem_cons.1 hy with rfl | hy
              · have := hblt b h2
                exact .inl (by show H1.size ≠ b; omega)
              · exact h6 y (by simp [hy])
      · exact ((f1.mono (by simp)).trans (f2.mono (by simp))).trans (f3.mono (by simp [Ents.blks]))
      · intro x hx
        simp only [Ents.blks, List.map_append, List.mem_cons, List.mem_append, List.map_cons] at hx ⊢
        rcases hx with h | h | h | h
        · exact .inl (.inl h)
        · exact .inl (.inr (.inl h))
        · exact .inr (by show H.size ≤ x; rw [h]; show H.size ≤ H1.size; omega)
        · exact .inl (.inr (.inr (.inr h)))
end Go.Cps

/-
  Strings, headers, parts and fields as elements of slices; a copy of a slice of strings.
  Conditions: each contract's own.
-/
namespace Go.Cps
open Go Go.Proofs

/-- a slice of bytes that reads as l, apart from D -/
def BytV (D : List Nat) (H : Heap) (v : Value) (l : List UInt8) : Prop := IsBytes H v l ∧ (l ≠ [] → ∀ b, blk v = some b → b ∉ D ∧ b < H.size)
theorem BytV.frm {D X : List Nat} {H H' : Heap} {v : Value} {l : List UInt8} (h : BytV D H v l) (f : Frm X H H') (hX : ∀ x ∈ X, x ∈ D ∨ H.size ≤ x) : BytV D H' v l :=
  ⟨h.1.frm' f (fun h0 b hb hm => by
    obtain ⟨h1, h2⟩ := h.2 h0 b hb
    rcases hX b hm with h | h
    · exact h1 h
    · omega), fun h0 b hb => ⟨(h.2 h0 b hb).1, Nat.lt_of_lt_of_le (h.2 h0 b hb).2 f.size⟩⟩
theorem BytV.new {D : List Nat} {H : Heap} {v : Value} {l : List UInt8} {g : Nat} (h : BytV D H v l) (hg : H.size ≤ g) : BytV (g :: D) H v l :=
  ⟨h.1, fun h0 b hb => by
    obtain ⟨h1, h2⟩ := h.2 h0 b hb
    refine ⟨fun hm => ?_, h2⟩
    rcases List.mem_cons.1 hm with rfl | hm
    · omega
    · exact h1 hm⟩
theorem BytV.sub {D D' : List Nat} {H : Heap} {v : Value} {l : List UInt8} (h : BytV D H v l) (hD : ∀ x ∈ D', x ∈ D) : BytV D' H v l := ⟨h.1, fun h0 b hb => ⟨fun hm => (h.2 h0 b hb).1 (hD b hm), (h.2 h0 b hb).2⟩⟩
theorem BytV.isOne {D : List Nat} {H : Heap} {v : Value} {l : List UInt8} (h : BytV D H v l) : isOne v = true := by
  rcases h.1 with ⟨b, o, c, rfl, _⟩ | ⟨a', rfl, _⟩ <;> rfl
theorem OwnB.bytV {D : List Nat} {H : Heap} {k : Option Nat} {v : Value} {l : List UInt8} (h : OwnB H k v l) (hk : ∀ g, k = some g → g ∉ D) : BytV D H v l :=
  ⟨h.bytes, fun _ b hb => by
    rw [h.blk] at hb
    refine ⟨hk b hb, ?_⟩
    subst hb
    obtain ⟨cells, _, hg, _⟩ := h
    exact lt_of_some hg⟩

def StrR (_ : List Nat) (_ : Heap) (s : List UInt8) (vs : List Value) : Prop := vs = [strVal s]
theorem strR_ok : RelOk StrR := ⟨fun h _ _ => h, fun h _ => h, fun _ h => h, fun h v hv => by rw [h] at hv; simp at hv; subst hv; rfl⟩
abbrev StrsV := SlV 1 StrR

/-- a key, its values -/
abbrev Hdr := List UInt8 × List (List UInt8)
def HeadR (D : List Nat) (H : Heap) (p : Hdr) (vs : List Value) : Prop := ∃ y, vs = [strVal p.1, y] ∧ StrsV D H y p.2
theorem headR_ok : RelOk HeadR where
  frm := fun ⟨y, h, h2⟩ f hX => ⟨y, h, h2.frm strR_ok f hX⟩
  new := fun ⟨y, h, h2⟩ hg => ⟨y, h, h2.new strR_ok hg⟩
  sub := fun hD ⟨y, h, h2⟩ => ⟨y, h, h2.sub strR_ok hD⟩
  one := fun ⟨y, h, h2⟩ v hv => by
    subst h
    simp only [List.mem_cons, List.not_mem_nil, or_false] at hv
    rcases hv with rfl | rfl
    · rfl
    · exact h2.isOne
abbrev HeadsV := SlV 2 HeadR

/-- a part: its header, its body -/
abbrev PartL := List Hdr × List UInt8
def PartR (D : List Nat) (H : Heap) (p : PartL) (vs : List Value) : Prop := ∃ y z, vs = [y, z] ∧ HeadsV D H y p.1 ∧ BytV D H z p.2
theorem partR_ok : RelOk PartR where
  frm := fun ⟨y, z, h, h2, h3⟩ f hX => ⟨y, z, h, h2.frm headR_ok f hX, h3.frm f hX⟩
  new := fun ⟨y, z, h, h2, h3⟩ hg => ⟨y, z, h, h2.new headR_ok hg, h3.new hg⟩
  sub := fun hD ⟨y, z, h, h2, h3⟩ => ⟨y, z, h, h2.sub headR_ok hD, h3.sub hD⟩
  one := fun ⟨y, z, h, h2, h3⟩ v hv => by
    subst h
    simp only [List.mem_cons, List.not_mem_nil, or_false] at hv
    rcases hv with rfl | rfl
    · exact h2.isOne
    · exact h3.isOne
abbrev PartsV := SlV 2 PartR

/-- a field: its name, its file's name, its value -/
structure FieldL where
  name : List UInt8
  file : List UInt8
  value : List UInt8
theorem add_zero (a : Addr) : a.add 0 = a := by simp [Addr.add]
/-- the i-th string of a slice of strings -/
theorem strs_elem {D : List Nat} {H : Heap} {v : Value} {l : List (List UInt8)} (h : StrsV D H v l) {j : Nat} (hj : j < l.length) : ∃ a, (∀ k : IntKind, elemAddrV 1 v (.int k j) = some (.pointer (some a))) ∧ cellH H a = some (strVal l[j]) := by
  obtain ⟨a, vs, h1, _, h3, h4, h5⟩ := h.elem hj
  refine ⟨a, h1, ?_⟩
  have := h5 0 (by omega)
  rw [show vs = [strVal l[j]] from h4, add_zero] at this
  simpa using this

theorem strs_elems {D : List Nat} {H : Heap} {v : Value} {l : List (List UInt8)} (h : StrsV D H v l) : elemsV 1 l.length v H = some (l.map strVal) := by
  rcases h with ⟨b, o, c, rfl, h1, h2, h3, h4⟩ | ⟨a', rfl, rfl⟩
  · simp only [elemsV, Nat.mul_one]
    refine (cellsH_getElem _ _ _).2 ⟨by simp, fun j hj => ?_⟩
    obtain ⟨vs, _, g2, g3⟩ := h4 j hj
    have := g3 0 (by omega)
    rw [show vs = [strVal l[j]] from g2] at this
    rw [Nat.zero_add]
    simp only [Nat.mul_one, Nat.add_zero, List.getElem?_cons_zero] at this
    rw [this, List.getElem?_map, List.getElem?_eq_getElem hj]
    rfl
  · cases a' <;> rfl
theorem strs_count {D : List Nat} {H : Heap} {v : Value} {l : List (List UInt8)} (h : StrsV D H v l) : countV v = some l.length := by
  rcases h with ⟨b, o, c, rfl, _⟩ | ⟨a', rfl, rfl⟩ <;> rfl

/-- append(nothing, list...) -/
theorem append_copy {D D' : List Nat} {H : Heap} {x : Value} {l : List (List UInt8)} {base : Option Addr} {K : Value → Heap → Prop} (hx : StrsV D H x l) (h0 : l ≠ []) (hl : l.length < 2 ^ 36) (hD : ∀ y ∈ D', y < H.size)
    (hK : ∀ g v H', OwnS 1 9 StrR D' H' (some g) v l → Frm [] H H' → g = H.size → H'.size = H.size + 1 → K v H') :
    Append 9 1 16 #[.string ⟨#[]⟩] (.slice base 0 0) x H K := by
  have hpos : 0 < l.length := List.length_pos_iff.2 h0
  refine ⟨_, _, _, l.length, _, rfl, strs_count hx, strs_elems hx, .inr ⟨by omega, by omega, by rw [nextcap0]; omega, [], ?_, fun c hc => ?_⟩⟩
  · cases base with
    | none => rfl
    | some a => simp [elemsV, cellsH]
  · rw [Nat.zero_add] at hc ⊢
    refine hK H.size _ _ ⟨_, c, rfl, push_same _ _, ?_, hc, fun hm => by have := hD _ hm; omega, fun j hj => ⟨[strVal l[j]], rfl, rfl, fun i hi => ?_⟩⟩ (Frm.push _ _ _) rfl (by simp)
    · simp [zeros, Builtin.zeroCells]; omega
    · have hi0 : i = 0 := by omega
      subst hi0
      rw [Array.append_assoc, Array.getElem?_append_right (by simp), Array.getElem?_append_left (by simp; omega)]
      simp [List.getElem?_eq_getElem hj]
end Go.Cps

/-
  A range over a header's map: the entries come, each once, in some order.
  Conditions: nothing writes the map meanwhile.
-/
namespace Go.Cps
open Go Go.Proofs

theorem range_map {T : TypeId} (hT : Tryz.prog.underlying T = some (.map 9 88)) {m : Nat} {es : Array MapEntry} {c : Nat} {H : Heap} {K : Value → Heap → Prop} (h : H[m]? = some (.map es c)) :
    ExecV Tryz.prog (Instr.range T (.map (some m))) H K = K (.pointer (some ⟨H.size, 0, none⟩)) (H.push (.mapIter (some m) c #[] c)) := by
  apply ExecV.eq'
  intro w hw
  subst hw
  refine ⟨{ w with heap := w.heap.push (.mapIter (some m) c #[] c) }, ?_, ⟨rfl, rfl, rfl⟩, rfl⟩
  have hgo : (getObj m).run Tryz.prog w = .ok (.map es c) w := by simp [getObj, Sem.run, h]
  simp only [Instr.range, Sem.run_bind, run_underlying' hT, Result.andThen_ok, hgo, Sem.run_pure]
  rfl

theorem setBlock_heap (w : World) (r : Nat) (o : Obj) : (Go.ChangeMaps.setBlock w r o).heap = upd w.heap r o := rfl

/-- a map's block and an iterator over it -/
structure IterAt (H : Heap) (m r : Nat) (es : Array MapEntry) (seen : Array Nat) : Prop where
  hm : H[m]? = some (.map es es.size)
  hr : H[r]? = some (.mapIter (some m) es.size seen es.size)
  born : es.toList.map (·.born) = List.range es.size

theorem IterAt.lt {H : Heap} {m r : Nat} {es : Array MapEntry} {seen : Array Nat} (h : IterAt H m r es seen) : ∀ e ∈ es.toList, e.born < es.size := by
  intro e he
  have : e.born ∈ es.toList.map (·.born) := List.mem_map.2 ⟨e, he, rfl⟩
  rw [h.born] at this
  exact List.mem_range.1 this
theorem IterAt.nodup {H : Heap} {m r : Nat} {es : Array MapEntry} {seen : Array Nat} (h : IterAt H m r es seen) : (es.toList.map (·.born)).Nodup := by rw [h.born]; exact List.nodup_range
theorem IterAt.frm {H H' : Heap} {m r : Nat} {es : Array MapEntry} {seen : Array Nat} {X : List Nat} (h : IterAt H m r es seen) (f : Frm X H H') (h1 : m ∉ X) (h2 : r ∉ X) : IterAt H' m r es seen := ⟨f.get h.hm h1, f.get h.hr h2, h.born⟩
theorem IterAt.ne {H : Heap} {m r : Nat} {es : Array MapEntry} {seen : Array Nat} (h : IterAt H m r es seen) : m ≠ r := by
  rintro rfl
  have h1 := h.hm
  rw [h.hr] at h1
  cases h1
theorem IterAt.step {H : Heap} {m r : Nat} {es : Array MapEntry} {seen : Array Nat} (h : IterAt H m r es seen) (b : Nat) : IterAt (upd H r (.mapIter (some m) es.size (seen.push b) es.size)) m r es (seen.push b) :=
  ⟨by rw [upd_ne h.ne.symm]; exact h.hm, upd_same (lt_of_some h.hr), h.born⟩

section
attribute [local irreducible] Sem.run
theorem next_map {P : Program} {H : Heap} {m r : Nat} {es : Array MapEntry} {seen : Array Nat} {ty : TypeId} {K : Value → Heap → Prop} (h : IterAt H m r es seen) (h0 : (leftOf es seen).size = 0 → K (.tuple #[.bool false]) H)
    (h1 : ∀ e ∈ (leftOf es seen).toList, K (.tuple #[.bool true, e.key, e.val]) (upd H r (.mapIter (some m) es.size (seen.push e.born) es.size))) :
    ExecV P (Instr.next (.pointer (some ⟨r, 0, none⟩)) false ty) H K := by
  intro w hw
  subst hw
  rcases run_next_at (P := P) w ty r m es.size es.size seen es es.size h.hr h.hm h.lt (Nat.le_refl _) with ⟨hz, hrun⟩ | ⟨e, he, w1, hw1, hrun⟩
  · rw [hrun]
    exact ⟨.refl w, h0 hz⟩
  · rw [hrun]
    have hs : Same w w1 ∧ w1.heap = w.heap := by rcases hw1 with rfl | rfl <;> exact ⟨⟨rfl, rfl, rfl⟩, rfl⟩
    refine ⟨⟨hs.1.os, hs.1.tape, hs.1.output⟩, ?_⟩
    rw [setBlock_heap, hs.2]
    exact h1 e he
theorem entry_map {P : Program} {H : Heap} {m r : Nat} {es : Array MapEntry} {seen : Array Nat} {e : MapEntry} {K : Value → Heap → Prop} (h : IterAt H m r es (seen.push e.born)) (he : e ∈ es.toList) :
    ExecV P (Instr.entry (.pointer (some ⟨r, 0, none⟩))) H K = K (.tuple #[e.key, e.val]) H :=
  ExecV.eq fun w hw => by
    subst hw
    exact run_entry_at w r m es.size seen es es.size e h.hr h.hm he h.nodup
end

/-- a list with one of it taken to the front -/
theorem perm_out {f : MapEntry → Nat} : ∀ {L : List MapEntry} {e : MapEntry}, (L.map f).Nodup → e ∈ L → L.Perm (e :: L.filter fun x => f x != f e)
  | [], e, _, h => by cases h
  | x :: L, e, hn, h => by
    rw [List.map_cons, List.nodup_cons] at hn
    rcases List.mem_cons.1 h with rfl | h
    · have : L.filter (fun y => f y != f e) = L := List.filter_eq_self.2 fun y hy => by
        rw [bne_iff_ne]; intro e2; exact hn.1 (List.mem_map.2 ⟨y, hy, e2⟩)
      rw [List.filter_cons_of_neg (by simp), this]
    · have hx : f x ≠ f e := fun e2 => hn.1 (List.mem_map.2 ⟨e, h, e2.symm⟩)
      rw [List.filter_cons_of_pos (by simpa using hx)]
      exact ((perm_out hn.2 h).cons x).trans (List.Perm.swap _ _ _)

theorem left_push (es : Array MapEntry) (seen : Array Nat) (b : Nat) : (leftOf es (seen.push b)).toList = (leftOf es seen).toList.filter fun x => x.born != b := by
  unfold leftOf
  simp only [Array.toList_filter, List.filter_filter]
  congr 1
  funext x
  simp only [Array.contains_push]
  rw [Bool.eq_iff_iff]
  simp only [Bool.not_eq_true', Bool.or_eq_false_iff, beq_eq_false_iff_ne, Bool.and_eq_true, bne_iff_ne]
  constructor
  · rintro ⟨h1, h2⟩; exact ⟨h2, h1⟩
  · rintro ⟨h1, h2⟩; exact ⟨h2, h1⟩
theorem left_nodup {es : Array MapEntry} (seen : Array Nat) (h : (es.toList.map (·.born)).Nodup) : ((leftOf es seen).toList.map (·.born)).Nodup := by
  unfold leftOf
  rw [Array.toList_filter]
  exact h.sublist (List.Sublist.map _ List.filter_sublist)
theorem left_mem {es : Array MapEntry} {seen : Array Nat} {e : MapEntry} (h : e ∈ (leftOf es seen).toList) : e ∈ es.toList := by
  unfold leftOf at h
  rw [Array.toList_filter] at h
  exact (List.mem_filter.1 h).1
theorem left_start (es : Array MapEntry) : (leftOf es #[]).toList = es.toList := by
  unfold leftOf
  simp

/-- what an entry stands for -/
def entHd (E : List Ent) (e : MapEntry) : Hdr := match E[e.born]? with | some t => t.hd | none => ([], [])
theorem ents_iter {H : Heap} {m N : Nat} {E : List Ent} (h : Ents H m N E) : ∃ es : Array MapEntry, H[m]? = some (.map es es.size) ∧ es.toList.map (·.born) = List.range es.size ∧ es.toList.map (entHd E) = E.map Ent.hd ∧ ∀ e ∈ es.toList, ∃ t ∈ E, entHd E e = t.hd ∧ e.key = strVal t.key ∧ e.val = t.pair.2 := by
  obtain ⟨es, c, h1, h2, h3, h4⟩ := h.map
  subst h4
  have hlen : es.size = E.length := by
    have := congrArg List.length h2
    simpa [entsOf] using this
  have hat : ∀ (i : Nat) (hi : i < es.size), es[i].born = i ∧ ∃ hE : i < E.length, es[i].key = strVal E[i].key ∧ es[i].val = E[i].pair.2 := by
    intro i hi
    have hE : i < E.length := by omega
    refine ⟨?_, hE, ?_⟩
    · have : (es.toList.map (·.born))[i]? = (List.range es.size)[i]? := by rw [h3]
      rw [List.getElem?_map, Array.getElem?_toList, Array.getElem?_eq_getElem hi, List.getElem?_range hi] at this
      simpa using this
    · have : (es.toList.map (fun e => (e.key, e.val)))[i]? = ((E.map Ent.pair).map fun p => (strVal p.1, p.2))[i]? := by
        unfold entsOf at h2
        rw [h2]
      rw [List.getElem?_map, List.getElem?_map, List.getElem?_map, Array.getElem?_toList, Array.getElem?_eq_getElem hi, List.getElem?_eq_getElem hE] at this
      simp only [Option.map_some, Option.some.injEq, Prod.mk.injEq] at this
      exact ⟨this.1, this.2⟩
  refine ⟨es, h1, h3, ?_, fun e he => ?_⟩
  · apply List.ext_getElem?
    intro i
    rw [List.getElem?_map, List.getElem?_map, Array.getElem?_toList]
    by_cases hi : i < es.size
    · obtain ⟨g1, hE, g2⟩ := hat i hi
      rw [Array.getElem?_eq_getElem hi, List.getElem?_eq_getElem hE]
      simp only [Option.map_some, entHd, g1, List.getElem?_eq_getElem hE]
    · rw [Array.getElem?_eq_none (by omega), List.getElem?_eq_none (by omega)]
      rfl
  · obtain ⟨i, hi, rfl⟩ := List.getElem_of_mem he
    simp only [Array.length_toList] at hi
    obtain ⟨g1, hE, g2, g3⟩ := hat i hi
    refine ⟨E[i], List.getElem_mem hE, ?_, by simpa using g2, by simpa using g3⟩
    simp only [entHd, Array.getElem_toList, g1, List.getElem?_eq_getElem hE]

/-- the values of an entry, as a slice of strings -/
theorem StrsAt.strsV {H : Heap} {b o c : Nat} {l : List (List UInt8)} {D : List Nat} (h : StrsAt H b o c l) (hb : b ∉ D) : StrsV D H (.slice (some ⟨b, o, none⟩) l.length c) l := by
  obtain ⟨cells, h1, h2, h3, h4⟩ := h
  refine .inl ⟨b, o, c, rfl, h2, hb, lt_of_some h1, fun j hj => ⟨[strVal l[j]], rfl, rfl, fun i hi => ?_⟩⟩
  have hi0 : i = 0 := by omega
  subst hi0
  rw [cellH_of h1, Nat.mul_one, Nat.add_zero, h4 j hj, List.getElem?_eq_getElem hj]
  rfl
end Go.Cps

/-
  What the bodies of some functions of the program come to, at heap level, each proved of the program itself.
  Conditions: none. Written by gen.py.
-/
namespace Go.Cps
open Go Go.Proofs
set_option maxRecDepth 100000

/-- impl.headers -/
def c67 (a0 : Value) (H : Heap) (R : Value → Heap → Prop) : Prop :=
  Fld 0 a0 H fun x9 =>
  ExecV Tryz.prog (Instr.range 106 x9) H fun x10 H =>
  Loop [(.slice none 0 0)] H fun K1 vs2 H =>
  ExecV Tryz.prog (Instr.next x10 false 0) H fun x11 H =>
  Get (extractV x11 0) fun x12 =>
  Br x12 (
  ExecV Tryz.prog (Instr.entry x10) H fun x13 H =>
  Get (extractV x13 0) fun x14 =>
  Get (extractV x13 1) fun x15 =>
  Get (Instr.fill (fun j => some (j * 1, 1)) ((Array.range (0 * 1)).map ((#[(.string ⟨#[]⟩)] : Array Value)[· % 1]!)) []) fun cs => NewSl cs 9 0 H fun x18 H =>
  Append 9 1 16 #[(.string ⟨#[]⟩)] x18 x15 H fun x20 H =>
  Get ((fillV #[(0, 1), (1, 1)] #[(.string ⟨#[]⟩), (.slice none 0 0)] [(0, x14), (1, x20)]).map .agg) fun x21 =>
  Get (Instr.fill (fun j => some (j * 2, 2)) ((Array.range (1 * 2)).map ((#[(.string ⟨#[]⟩), (.slice none 0 0)] : Array Value)[· % 2]!)) [(0, x21)]) fun cs => NewSl cs 90 1 H fun x22 H =>
  Append 90 2 40 #[(.string ⟨#[]⟩), (.slice none 0 0)] (nth vs2 0) x22 H fun x23 H =>
  K1 [x23] H) (
  CallsH Tryz.prog 89 #[(nth vs2 0), (.func (.func 90) #[] #[])] H fun _ H =>
  R (nth vs2 0) H)
def p67 : Plan := .seq (.leaf []) (.seq (.leaf []) (.seq (.seq (.leaf []) (.block (.loop [3] (.seq (.leaf []) (.seq (.cond (.leaf []) (.leaf [])) (.block (.seq (.leaf []) (.leaf [])))))))) (.seq (.leaf []) (.seq (.leaf []) (.leaf [])))))
theorem s67 {a0 : Value} {H : Heap} {R : Value → Heap → Prop} (h : c67 a0 H R) : CallsH Tryz.prog 67 #[a0] H R :=
  callsH_of_eq p67 (fn := Tryz.f67) (c := Tryz.f67.body.getD .skip) (args := [a0]) Tryz.func67 (by kernel_rfl) mixed (by kernel_rfl) (by kernel_rfl) (by kernel_rfl) h

end Go.Cps

/-
  The lines of a header: their text, what trimming and cutting makes of them; the blank line.
  Conditions: each contract's own.
-/
namespace Go.Cps
open Go Go.Proofs

def lineOf (kv : List UInt8 × List UInt8) : List UInt8 := kv.1 ++ 58 :: 32 :: kv.2
def linesText (ls : List (List UInt8 × List UInt8)) : List UInt8 := ls.flatMap fun kv => lineOf kv ++ [13, 10]
/-- printable, no blank at both ends -/
structure PlainV (v : List UInt8) : Prop where
  chars : ∀ b ∈ v, 32 ≤ b.toNat ∧ b.toNat ≤ 126
  first : v.head? ≠ some 32
  last : v.getLast? ≠ some 32
structure LineOk (kv : List UInt8 × List UInt8) : Prop where
  key : kv.1 ≠ []
  toks : ∀ b ∈ kv.1, tok b.toNat = true
  val : PlainV kv.2
  len : kv.1.length + kv.2.length ≤ 1000
def hdrFrom (acc : List (List UInt8 × List (List UInt8))) (ls : List (List UInt8 × List UInt8)) : List (List UInt8 × List (List UInt8)) := ls.foldl (fun acc kv => addH (canonG true kv.1) kv.2 acc) acc
def hdrOf (ls : List (List UInt8 × List UInt8)) : List (List UInt8 × List (List UInt8)) := hdrFrom [] ls
theorem hdrFrom_snoc (acc : List (List UInt8 × List (List UInt8))) (ls : List (List UInt8 × List UInt8)) (kv : List UInt8 × List UInt8) : hdrFrom acc (ls ++ [kv]) = addH (canonG true kv.1) kv.2 (hdrFrom acc ls) := by
  simp [hdrFrom, List.foldl_append]

theorem tok_lws {b : UInt8} (h : tok b.toNat = true) : lws b = false := by
  rw [← Bool.not_eq_true]
  intro hw
  unfold lws at hw
  simp only [Bool.or_eq_true, beq_iff_eq] at hw
  rcases hw with rfl | rfl <;> simp [tok, alnum] at h
theorem tok_ne {b c : UInt8} (h : tok b.toNat = true) (hc : tok c.toNat = false) : b ≠ c := fun e => by rw [e, hc] at h; cases h
theorem PlainV.no_nl {v : List UInt8} (h : PlainV v) : 10 ∉ v := fun hm => by have := h.chars 10 hm; simp at this
theorem LineOk.no_nl {kv : List UInt8 × List UInt8} (h : LineOk kv) : 10 ∉ lineOf kv := by
  intro hm
  simp only [lineOf, List.mem_append, List.mem_cons] at hm
  rcases hm with hm | hm | hm | hm
  · exact tok_ne (h.toks 10 hm) (c := 10) (by decide) rfl
  · cases hm
  · cases hm
  · exact h.val.no_nl hm
theorem dropWhile_head {l : List UInt8} (h : ∀ x, l.head? = some x → lws x = false) : l.dropWhile lws = l := by
  cases l with
  | nil => rfl
  | cons x r => rw [List.dropWhile_cons_of_neg]; rw [h x rfl]; simp
theorem PlainV.not_lws_head {v : List UInt8} (h : PlainV v) : ∀ x, v.head? = some x → lws x = false := by
  intro x hx
  have hm : x ∈ v := List.mem_of_head? hx
  have h1 := h.chars x hm
  have h2 := h.first
  rw [hx] at h2
  rw [← Bool.not_eq_true]
  intro hw
  unfold lws at hw
  simp only [Bool.or_eq_true, beq_iff_eq] at hw
  rcases hw with rfl | rfl
  · exact h2 rfl
  · simp at h1
theorem PlainV.not_lws_last {v : List UInt8} (h : PlainV v) : ∀ x, v.getLast? = some x → lws x = false := by
  intro x hx
  have hm : x ∈ v := List.mem_of_getLast? hx
  have h1 := h.chars x hm
  have h2 := h.last
  rw [hx] at h2
  rw [← Bool.not_eq_true]
  intro hw
  unfold lws at hw
  simp only [Bool.or_eq_true, beq_iff_eq] at hw
  rcases hw with rfl | rfl
  · exact h2 rfl
  · simp at h1

def valTail (v : List UInt8) : List UInt8 := if v = [] then [] else 32 :: v
theorem trimB_line {kv : List UInt8 × List UInt8} (h : LineOk kv) : trimB (lineOf kv) = kv.1 ++ 58 :: valTail kv.2 := by
  obtain ⟨k, v⟩ := kv
  have hk : k ≠ [] := h.key
  have h1 : (lineOf (k, v)).dropWhile lws = lineOf (k, v) := dropWhile_head fun x hx => by
    cases k with
    | nil => exact absurd rfl hk
    | cons y r => simp [lineOf] at hx; subst hx; exact tok_lws (h.toks y (by simp))
  unfold trimB
  rw [h1]
  by_cases hv : v = []
  · subst hv
    have e : (lineOf (k, [])).reverse = 32 :: 58 :: k.reverse := by simp [lineOf]
    rw [e, List.dropWhile_cons_of_pos (by decide), List.dropWhile_cons_of_neg (by decide)]
    simp [valTail]
  · have e : (lineOf (k, v)).reverse.dropWhile lws = (lineOf (k, v)).reverse := dropWhile_head fun x hx => by
      refine h.val.not_lws_last x ?_
      rw [List.head?_reverse] at hx
      have : (lineOf (k, v)).getLast? = v.getLast? := by
        simp only [lineOf]
        rw [List.getLast?_append]
        simp only [List.getLast?_cons]
        cases hv2 : v.getLast? with
        | none => rw [List.getLast?_eq_none_iff] at hv2; exact absurd hv2 hv
        | some y => simp
      rw [this] at hx
      exact hx
    rw [e, List.reverse_reverse]
    simp [lineOf, valTail, if_neg hv]
theorem valTail_drop {v : List UInt8} (h : PlainV v) : (valTail v).dropWhile lws = v := by
  unfold valTail
  split
  · rename_i e; rw [e]; rfl
  · rw [List.dropWhile_cons_of_pos (by decide)]
    exact dropWhile_head h.not_lws_head
theorem valTail_print {v : List UInt8} (h : PlainV v) : ∀ b ∈ valTail v, printV b.toNat = true := by
  intro b hb
  unfold valTail at hb
  split at hb
  · cases hb
  · rcases List.mem_cons.1 hb with rfl | hb
    · decide
    · have := h.chars b hb
      unfold printV
      simp only [Bool.or_eq_true, Bool.and_eq_true, decide_eq_true_eq]
      omega
theorem valTail_len (v : List UInt8) : (valTail v).length ≤ v.length + 1 := by
  unfold valTail
  split <;> simp

/-- what stands behind a line begins with no blank -/
theorem behind_head (ls : List (List UInt8 × List UInt8)) (q : List UInt8) (h : ∀ kv ∈ ls, LineOk kv) : ∃ c r, linesText ls ++ 13 :: 10 :: q = c :: r ∧ lws c = false ∧ c ≠ 32 ∧ c ≠ 9 := by
  cases ls with
  | nil => exact ⟨13, _, rfl, by decide, by decide, by decide⟩
  | cons kv r =>
    have hkv := h kv (by simp)
    obtain ⟨k, v⟩ := kv
    cases k with
    | nil => exact absurd rfl hkv.key
    | cons y k =>
      have hy := hkv.toks y (by simp)
      exact ⟨y, k ++ 58 :: 32 :: v ++ [13, 10] ++ (linesText r ++ 13 :: 10 :: q), by simp [linesText, lineOf], tok_lws hy, tok_ne hy (by decide), tok_ne hy (by decide)⟩

/-- a blank line -/
theorem contBlank_ok {S : Stk} {s : St} {H : Heap} {tr : Nat} {tbuf : Value} {q : List UInt8} {lim : Int} (ht : TR S tr tbuf H) (h : RdAt S s H) (h4 : Full4 H) (h40 : 4 ∉ S.ids) (hr : s.rest S = 13 :: 10 :: q) (hlim : 0 ≤ lim) :
    CallsH Tryz.prog 168 #[.pointer (some ⟨tr, 0, none⟩), .int .i64 lim, .func (.func 169) #[] #[]] H fun x H' => ∃ u s', x = .tuple #[u, .nilIface] ∧ RdAt S s' H' ∧ IsBytes H' u [] ∧ s'.rest S = q ∧ Frm S.ids H H' ∧ H'.size = H.size := by
  apply s168
  have hnf : nilV2 .eql .nilFunc (.func (.func 169) #[] #[]) = some (.bool false) := rfl
  simp only [c168, hnf, Fld_ptr, add_mk, Nat.zero_add, List.getElem?_toArray, List.getElem?_cons_succ, List.getElem?_cons_zero, Get_some, Br_true, Br_false, nth_zero, nth_one, nth_two, extractV_tuple, fieldAddrV_ptr, nilV_ptr, load1V_ptr, pickV_bool, unV_not, lenV_slice, capV_slice]
  refine (lineSlice_ok (p := []) ht h h4 h40 hr (by simp) (by simp) (by simpa using hlim)).mono ?_
  rintro x H1 ⟨u0, s1, rfl, h1, hu0, hr1, hrng, f1, z1⟩
  have hne : (((([] : List UInt8).length : Nat) : Int) == 0) = true := by decide
  simp only [Fld_ptr, add_mk, Nat.zero_add, List.getElem?_toArray, List.getElem?_cons_succ, List.getElem?_cons_zero, Get_some, Br_true, Br_false, nth_zero, nth_one, nth_two, extractV_tuple, fieldAddrV_ptr, nilV_ptr, load1V_ptr, pickV_bool, unV_not, lenV_slice, capV_slice, arithV_add, arithV_sub, arithV_eql, arithV_neq, arithV_lss, arithV_leq, arithV_gtr, arithV_geq, intConvV_int, nilV2_neq_nil, hu0.len, hne]
  exact ⟨u0, s1, rfl, h1, hu0, hr1, f1, z1⟩
end Go.Cps
