/-
  A part of the proof (its texts: GC, L55, L64, L66, L67, L68, L69): each text says below what it proves.
  Conditions: each contract's own.
-/
import Derived.Test.YtfajmapajpfocaaGreatDoorE4
import Derived.Test.YtfajmapajpfocaaGreatDoorE10
import Derived.Test.YtfajmapajpfocaaGreatDoorE13
import Derived.Test.YtfajmapajpfocaaGreatDoorE20
import Derived.Test.YtfajmapajpfocaaGreatDoorE22
set_option linter.all false
/-
  What the bodies of some functions of the program come to, at heap level, each proved of the program itself.
  Conditions: none. Written by gen.py.
-/
namespace Go.Cps
open Go Go.Proofs
set_option maxRecDepth 100000

/-- impl.header -/
def c33 (a0 : Value) (H : Heap) (R : Value → Heap → Prop) : Prop :=
  NewMap H fun x6 H =>
  Get (lenV a0) fun x8 =>
  Loop [(.int .i64 0)] H fun K1 vs2 H =>
  Get (arithV .lss .i64 (nth vs2 0) x8) fun x10 =>
  Br x10 (
  Get (elemAddrV 2 a0 (nth vs2 0)) fun x11 =>
  Get (loadNV 2 x11 H) fun x12 =>
  New (.cells #[(.string ⟨#[]⟩), (.slice none 0 0)] 90 (0, 0)) H fun x5 H =>
  Get (storeNV 2 x5 x12 H) fun H =>
  Get (fieldAddrV 0 x5) fun x14 =>
  Get (load1V x14 H) fun x15 =>
  Get (fieldAddrV 0 x5) fun x17 =>
  Get (load1V x17 H) fun x18 =>
  Get (fieldAddrV 1 x5) fun x20 =>
  Get (load1V x20 H) fun x21 =>
  ExecV Tryz.prog (Instr.lookup 66 x6 x18 false) H fun x19 H =>
  (load1V x20 H = some x21 ∧ (load1V x14 H = some x15 ∧ True)) ∧
  Append 9 1 16 #[(.string ⟨#[]⟩)] x19 x21 H fun x22 H =>
  (load1V x14 H = some x15 ∧ True) ∧
  ExecV Tryz.prog (do Instr.mapUpdate 66 x6 x15 x22; pure undef) H fun u H =>
  Get (arithV .add .i64 (nth vs2 0) (.int .i64 1)) fun x23 =>
  K1 [x23] H) (
  R x6 H)
def p33 : Plan := .seq (.leaf []) (.seq (.leaf []) (.seq (.seq (.leaf []) (.block (.loop [9] (.seq (.leaf []) (.seq (.cond (.leaf []) (.leaf [])) (.seq (.block (.seq (.leaf []) (.leaf [0, 1, 2, 3, 4, 5, 7, 8, 6, 9, 10]))) (.leaf []))))))) (.seq (.leaf []) (.leaf []))))
theorem s33 {a0 : Value} {H : Heap} {R : Value → Heap → Prop} (h : c33 a0 H R) : CallsH Tryz.prog 33 #[a0] H R :=
  callsH_of_eq p33 (fn := Tryz.f33) (c := Tryz.f33.body.getD .skip) (args := [a0]) Tryz.func33 (by kernel_rfl) mixed (by kernel_rfl) (by kernel_rfl) (by kernel_rfl) h

/-- (*pub/multipart.Writer).CreatePart -/
def c32 (a0 a1 : Value) (H : Heap) (R : Value → Heap → Prop) : Prop :=
  Join (fun K1 =>
  Fld 2 a0 H fun x18 =>
  Get (nilV2 .neq (.pointer none) x18) fun x19 =>
  Br x19 (
  Fld 2 a0 H fun x23 =>
  CallsH Tryz.prog 61 #[x23] H fun x24 H =>
  Get (nilV2 .neq .nilIface x24) fun x26 =>
  Br x26 (
  R (.tuple #[.nilIface, x24]) H) (
  K1 [] H)) (
  K1 [] H)) fun _ H =>
  New (.cells #[(.slice none 0 0), (.int .i64 0), (.int .i8 0)] 55 (0, 0)) H fun x7 H =>
  Join (fun K3 =>
  Fld 2 a0 H fun x31 =>
  Get (nilV2 .neq (.pointer none) x31) fun x32 =>
  Br x32 (
  Fld 1 a0 H fun x36 =>
  Get (strV .add (.string ⟨#[13, 10, 45, 45]⟩) x36) fun x37 =>
  Get (strV .add x37 (.string ⟨#[13, 10]⟩)) fun x38 =>
  CallsH Tryz.prog 62 #[x7, x38] H fun _ H =>
  K3 [] H) (
  Fld 1 a0 H fun x43 =>
  Get (strV .add (.string ⟨#[45, 45]⟩) x43) fun x44 =>
  Get (strV .add x44 (.string ⟨#[13, 10]⟩)) fun x45 =>
  CallsH Tryz.prog 62 #[x7, x45] H fun _ H =>
  K3 [] H)) fun _ H =>
  CallsH Tryz.prog 64 #[a1] H fun x48 H =>
  CallsH Tryz.prog 63 #[x48] H fun x49 H =>
  Get (lenV x49) fun x50 =>
  Loop [(.int .i64 0)] H fun K5 vs6 H =>
  Get (arithV .lss .i64 (nth vs6 0) x50) fun x52 =>
  Br x52 (
  Get (elemAddrV 1 x49 (nth vs6 0)) fun x53 =>
  Get (load1V x53 H) fun x54 =>
  ExecV Tryz.prog (Instr.lookup 106 a1 x54 false) H fun x57 H =>
  Get (lenV x57) fun x58 =>
  Loop [(.int .i64 0)] H fun K7 vs8 H =>
  Get (arithV .lss .i64 (nth vs8 0) x58) fun x60 =>
  Br x60 (
  Get (elemAddrV 1 x57 (nth vs8 0)) fun x61 =>
  Get (load1V x61 H) fun x62 =>
  Get (strV .add x54 (.string ⟨#[58, 32]⟩)) fun x64 =>
  Get (strV .add x64 x62) fun x66 =>
  Get (strV .add x66 (.string ⟨#[13, 10]⟩)) fun x67 =>
  CallsH Tryz.prog 62 #[x7, x67] H fun _ H =>
  Get (arithV .add .i64 (nth vs8 0) (.int .i64 1)) fun x69 =>
  K7 [x69] H) (
  Get (arithV .add .i64 (nth vs6 0) (.int .i64 1)) fun x70 =>
  K5 [x70] H)) (
  CallsH Tryz.prog 62 #[x7, (.string ⟨#[13, 10]⟩)] H fun _ H =>
  Fld 0 a0 H fun x76 =>
  Get (some (Value.iface 58 x7)) fun x77 =>
  CallsH Tryz.prog 65 #[x76, x77] H fun x78 H =>
  Get (extractV x78 0) fun _ =>
  Get (extractV x78 1) fun x80 =>
  Get (nilV2 .neq .nilIface x80) fun x82 =>
  Br x82 (
  R (.tuple #[.nilIface, x80]) H) (
  Get ((fillV #[(0, 1), (1, 1), (2, 1)] #[(.pointer none), (.bool false), .nilIface] [(0, a0)]).map .agg) fun x85 =>
  New (.cells (Value.cells x85) 115 (0, 0)) H fun x86 H =>
  Get (nilV a0) fun x89 =>
  Get (fieldAddrV 2 x89) fun x90 =>
  Get (store1V x90 x86 H) fun H =>
  Get (some (Value.iface 103 x86)) fun x92 =>
  R (.tuple #[x92, .nilIface]) H))
def p32 : Plan := .seq (.leaf []) (.join [] (.seq (.leaf []) (.cond (.seq (.leaf []) (.seq (.leaf []) (.cond (.seq (.leaf []) (.leaf [])) (.leaf [])))) (.leaf []))) (.seq (.leaf []) (.join [] (.seq (.leaf []) (.cond (.leaf []) (.leaf []))) (.seq (.seq (.leaf []) (.block (.loop [51] (.seq (.leaf []) (.seq (.cond (.leaf []) (.leaf [])) (.seq (.block (.seq (.leaf []) (.seq (.leaf []) (.block (.loop [59] (.seq (.leaf []) (.seq (.cond (.leaf []) (.leaf [])) (.seq (.block (.seq (.leaf []) (.leaf []))) (.leaf []))))))))) (.leaf []))))))) (.seq (.leaf []) (.seq (.leaf []) (.seq (.seq (.leaf []) (.cond (.seq (.leaf []) (.leaf [])) (.leaf []))) (.seq (.leaf []) (.seq (.leaf []) (.seq (.leaf []) (.leaf [])))))))))))
theorem s32 {a0 a1 : Value} {H : Heap} {R : Value → Heap → Prop} (h : c32 a0 a1 H R) : CallsH Tryz.prog 32 #[a0, a1] H R :=
  callsH_of_eq p32 (fn := Tryz.f32) (c := Tryz.f32.body.getD .skip) (args := [a0, a1]) Tryz.func32 (by kernel_rfl) mixed (by kernel_rfl) (by kernel_rfl) (by kernel_rfl) h

end Go.Cps

/-
  impl.header: a list of headers made a map.
  Conditions: the keys are different; each has a value.
-/
namespace Go.Cps
open Go Go.Proofs

theorem OwnS.strsAt {D : List Nat} {H : Heap} {g : Nat} {v : Value} {l : List (List UInt8)} (h : OwnS 1 9 StrR D H (some g) v l) : ∃ c, v = .slice (some ⟨g, 0, none⟩) l.length c ∧ StrsAt H g 0 c l := by
  obtain ⟨cells, c, rfl, hg, hc, hl, hgD, he⟩ := h
  refine ⟨c, rfl, cells, hg, hl, by omega, fun j hj => ?_⟩
  obtain ⟨vs, g1, g2, g3⟩ := he j hj
  have := g3 0 (by omega)
  rw [show vs = [strVal l[j]] from g2] at this
  rw [Nat.zero_add, List.getElem?_eq_getElem hj]
  simpa using this

/-- an entry that is not there yet, put -/
theorem putNew_ok {T : TypeId} (hT : Tryz.prog.underlying T = some (.map 9 88)) {H : Heap} {m N g c : Nat} {E : List Ent} {k : List UInt8} {vs : List (List UInt8)} (hE : Ents H m N E) (hg : getE k (E.map Ent.pair) = none) (hs : StrsAt H g 0 c vs) (hgE : ∀ e ∈ E, e.b ≠ g) (hN : vs.length ≤ N) :
    ∃ H', Ents H' m N (E ++ [⟨k, g, 0, c, vs⟩]) ∧ Frm [m] H H' ∧ H'.size = H.size ∧ ∀ K : Value → Heap → Prop, ExecV Tryz.prog (do Instr.mapUpdate T (.map (some m)) (strVal k) (.slice (some ⟨g, 0, none⟩) vs.length c); pure undef) H K = K undef H' := by
  obtain ⟨H2, hm2, f2, z2, hex⟩ := update_of hT (k := k) (v := .slice (some ⟨g, 0, none⟩) vs.length c) hE.map
  obtain ⟨_, hs2⟩ := getE_none hg
  have hne : ∀ {b o c' l}, StrsAt H b o c' l → b ≠ m := fun {b o c' l} hst hh => by
    obtain ⟨cs, hcs, _⟩ := hst
    obtain ⟨es, c, hm0, _⟩ := hE.map
    rw [hh, hm0] at hcs
    cases hcs
  refine ⟨H2, ⟨?_, fun e he => ?_, ?_, ?_⟩, f2, z2, hex⟩
  · rw [hs2] at hm2; simpa [Ent.pair] using hm2
  · rcases List.mem_append.1 he with he | he
    · exact (hE.strs e he).frm f2 (by simpa using hne (hE.strs e he))
    · rw [List.mem_singleton] at he
      subst he
      exact hs.frm f2 (by simpa using hne hs)
  · rw [List.pairwise_append]
    refine ⟨hE.apart, by simp, fun e he e' he' => ?_⟩
    rw [List.mem_singleton] at he'
    subst he'
    exact .inl (hgE e he)
  · intro e he
    rcases List.mem_append.1 he with he | he
    · exact hE.few e he
    · rw [List.mem_singleton] at he; subst he; exact hN

theorem getE_absent {k : List UInt8} : ∀ {E : List Ent}, (∀ e ∈ E, e.key ≠ k) → getE k (E.map Ent.pair) = none
  | [], _ => rfl
  | e :: r, h => by
    simp only [List.map_cons, getE]
    rw [if_neg (by exact h e (by simp)), getE_absent fun e' he' => h e' (by simp [he'])]

/-- a loaded struct, kept in a block of its own -/
theorem local2 {T : TypeId} {z1 z2 a b : Value} {H : Heap} {K : Value → Heap → Prop} (h1 : isOne a = true) (h2 : isOne b = true)
    (hK : ∀ H', H'[H.size]? = some (.cells #[a, b] T (0, 0)) → Frm [] H H' → H'.size = H.size + 1 → K (.pointer (some ⟨H.size, 0, none⟩)) H') :
    New (.cells #[z1, z2] T (0, 0)) H fun x5 H => Get (storeNV 2 x5 (.agg #[a, b]) H) fun H => K x5 H := by
  have hp := push_same H (.cells #[z1, z2] T (0, 0))
  have f0 : Frm [] H (H.push (.cells #[z1, z2] T (0, 0))) := Frm.push _ _ _
  have z0 : (H.push (.cells #[z1, z2] T (0, 0))).size = H.size + 1 := by simp
  simp only [New]
  generalize H.push (.cells #[z1, z2] T (0, 0)) = H0 at *
  rw [storeNV_of (vs := #[a, b]) (n := 2) hp rfl rfl (by simp [h1, h2]), Get_some]
  refine hK _ (upd_same (lt_of_some hp)) ⟨by simp; omega, fun k hk _ => ?_⟩ (by simpa using z0)
  rw [upd_ne (by omega)]
  exact f0.same k hk (by simp)

theorem header_ok {D : List Nat} {H : Heap} {v : Value} {hd : List Hdr} (hv : HeadsV D H v hd) (hne : ∀ p ∈ hd, p.2 ≠ [] ∧ p.2.length < 2 ^ 30) (hk : (hd.map (·.1)).Nodup) (hl : hd.length < 2 ^ 30) :
    CallsH Tryz.prog 33 #[v] H fun x H' => ∃ m N E, x = .map (some m) ∧ Ents H' m N E ∧ E.map Ent.hd = hd ∧ Frm [] H H' ∧ (∀ x ∈ Ents.blks m E, H.size ≤ x) ∧ N = 2 ^ 30 := by
  apply s33
  simp only [c33, NewMap, hv.len, Get_some]
  have f1 : Frm [] H (H.push (.map #[] 0)) := Frm.push _ _ _
  have hm1 := mapAt_new H
  have z1 : (H.push (.map #[] 0)).size = H.size + 1 := by simp
  generalize H.push (.map #[] 0) = H1 at *
  refine ⟨fun μ vs H2 => ∃ (i : Nat) (E : List Ent), vs = [.int .i64 i] ∧ μ = hd.length - i ∧ i ≤ hd.length ∧ Ents H2 H.size (2 ^ 30) E ∧ E.map Ent.hd = hd.take i ∧ Frm [] H H2 ∧ ∀ x ∈ Ents.blks H.size E, H.size ≤ x,
    ⟨_, 0, [], rfl, rfl, Nat.zero_le _, ⟨hm1, by simp, List.Pairwise.nil, by simp⟩, by simp, f1, by simp [Ents.blks]⟩, ?_⟩
  rintro μ vs H2 ⟨i, E, rfl, rfl, hi, hE, hhd, f2, hbk⟩
  have dd : ∀ a b : Nat, decide ((a : Int) < (b : Int)) = decide (a < b) := fun a b => by simp
  simp only [Fld_ptr, add_mk, Nat.zero_add, List.getElem?_toArray, List.getElem?_cons_succ, List.getElem?_cons_zero, Get_some, Br_true, Br_false, nth_zero, nth_one, nth_two, extractV_tuple, fieldAddrV_ptr, nilV_ptr, load1V_ptr, pickV_bool, unV_not, lenV_slice, capV_slice, arithV_add, arithV_sub, arithV_eql, arithV_neq, arithV_lss, arithV_leq, arithV_gtr, arithV_geq, intConvV_int, dd]
  refine Br_intro (fun hlt => ?_) (fun hlt => ?_)
  · have hlt' : i < hd.length := by simpa using hlt
    have hv2 := hv.frm headR_ok f2 (by simp)
    obtain ⟨a, cs, ha, hlo, hcl, ⟨y, hcs, hy⟩, _⟩ := hv2.elem hlt'
    subst hcs
    simp only [ha, Get_some, hlo]
    refine local2 (K := fun x5 H => _) rfl hy.isOne fun H3 hb3 f3 z3 => ?_
    have hE3 := hE.frm f3 (by simp)
    simp only [Fld_ptr, add_mk, Nat.zero_add, List.getElem?_toArray, List.getElem?_cons_succ, List.getElem?_cons_zero, Get_some, Br_true, Br_false, nth_zero, nth_one, nth_two, extractV_tuple, fieldAddrV_ptr, nilV_ptr, load1V_ptr, pickV_bool, unV_not, lenV_slice, capV_slice, cellH_of hb3]
    have habs : getE hd[i].1 (E.map Ent.pair) = none := getE_absent fun e he => by
      intro hke
      have hm : e.hd ∈ hd.take i := by rw [← hhd]; exact List.mem_map.2 ⟨e, he, rfl⟩
      obtain ⟨j, hj, hje⟩ := List.getElem_of_mem hm
      simp only [List.length_take] at hj
      rw [List.getElem_take] at hje
      have hn := List.pairwise_iff_getElem.1 hk j i (by simp; omega) (by simpa using hlt') (by omega)
      apply hn
      rw [List.getElem_map, List.getElem_map, hje, ← hke]
      rfl
    rw [lookup_of und66 hE3.map, habs]
    simp only [Option.getD_none]
    obtain ⟨hne1, hne2⟩ := hne hd[i] (List.getElem_mem hlt')
    have hy3 : StrsV D H3 y hd[i].2 := hy.frm strR_ok f3 (by simp)
    refine ⟨⟨by rw [cellH_of hb3]; rfl, by rw [cellH_of hb3]; rfl, trivial⟩, ?_⟩
    refine append_copy (D' := []) hy3 hne1 (by omega) (by simp) fun g w H4 hw f4 hg z4 => ?_
    refine ⟨⟨by rw [cellH_of (f4.get hb3 (by simp))]; rfl, trivial⟩, ?_⟩
    obtain ⟨c, rfl, hst⟩ := hw.strsAt
    have hE4 := hE3.frm f4 (by simp)
    obtain ⟨H5, hE5, f5, z5, hex⟩ := putNew_ok und66 hE4 habs hst (fun e he => by
      have := hE3.lt e.b (by simp only [Ents.blks, List.mem_cons, List.mem_map]; exact .inr ⟨e, he, rfl⟩)
      omega) (by omega : _ ≤ 2 ^ 30)
    rw [hex]
    have e1 : IntKind.i64.wrap ((i : Int) + 1) = ((i + 1 : Nat) : Int) := by rw [wrap_i64 (by omega) (by omega)]; omega
    simp only [arithV_add, arithV_sub, arithV_eql, arithV_neq, arithV_lss, arithV_leq, arithV_gtr, arithV_geq, intConvV_int, Fld_ptr, add_mk, Nat.zero_add, List.getElem?_toArray, List.getElem?_cons_succ, List.getElem?_cons_zero, Get_some, Br_true, Br_false, nth_zero, nth_one, nth_two, extractV_tuple, fieldAddrV_ptr, nilV_ptr, load1V_ptr, pickV_bool, unV_not, lenV_slice, capV_slice, e1]
    refine ⟨_, by omega, i + 1, _, rfl, rfl, hlt', hE5, ?_, ?_, ?_⟩
    · rw [List.map_append, hhd, List.take_succ_eq_append_getElem hlt']
      rfl
    · exact ((f2.trans f3).trans f4).up f5 (fun x hx => by rw [List.mem_singleton] at hx; subst hx; exact .inr (Nat.le_refl _))
    · intro x hx
      simp only [Ents.blks, List.map_append, List.mem_cons, List.mem_append, List.map_cons, List.map_nil, List.not_mem_nil, or_false] at hx
      rcases hx with h | h | h
      · omega
      · exact hbk x (by simp only [Ents.blks, List.mem_cons]; exact .inr h)
      · have h1 := f2.size; have h2 := f3.size; rw [h, hg]; omega
  · have : i = hd.length := by simp at hlt; omega
    subst this
    rw [List.take_length] at hhd
    exact ⟨_, _, E, rfl, hE, hhd, f2, hbk, rfl⟩
end Go.Cps

/-
  spec.Same and what it calls: two lists of parts compared.
  Conditions: none.
-/
namespace Go.Cps
open Go Go.Proofs

theorem dec_lt (a b : Nat) : decide ((a : Int) < (b : Int)) = decide (a < b) := by simp
theorem inc_i64 {i : Nat} (h : i < 2 ^ 62) : IntKind.i64.wrap ((i : Int) + 1) = ((i + 1 : Nat) : Int) := by rw [wrap_i64 (by omega) (by omega)]; omega
theorem neq_nat (a b : Nat) : (((a : Nat) : Int) != ((b : Nat) : Int)) = decide (a ≠ b) := by
  rw [Bool.eq_iff_iff]
  simp only [bne_iff_ne, ne_eq, decide_eq_true_eq]
  omega
theorem strV_eql' (a b : List UInt8) : strV .eql (strVal a) (strVal b) = some (.bool (decide (a = b))) := by
  rw [strVal, strVal, strV_eql, toList_mk, toList_mk]
  congr 2
  rw [Bool.eq_iff_iff]
  simp
theorem strV_neq' (a b : List UInt8) : strV .neq (strVal a) (strVal b) = some (.bool (decide (a ≠ b))) := by
  show some (Value.bool !((⟨a.toArray⟩ : ByteArray).toList == (⟨b.toArray⟩ : ByteArray).toList)) = _
  rw [toList_mk, toList_mk]
  congr 2
  rw [Bool.eq_iff_iff]
  simp

theorem take_succ_eq {α : Type} {a b : List α} {i : Nat} (ha : i < a.length) (hb : i < b.length) (h : a.take i = b.take i) (he : a[i] = b[i]) : a.take (i + 1) = b.take (i + 1) := by
  rw [List.take_succ_eq_append_getElem ha, List.take_succ_eq_append_getElem hb, h, he]
theorem ne_of_get {α : Type} {a b : List α} {i : Nat} (ha : i < a.length) (hb : i < b.length) (h : a[i] ≠ b[i]) : a ≠ b := by
  rintro rfl
  exact h rfl

/-- slices.Equal of strings -/
theorem equalStrs_ok {D D' : List Nat} {H : Heap} {v w : Value} {a b : List (List UInt8)} (ha : StrsV D H v a) (hb : StrsV D' H w b) (hl : a.length < 2 ^ 60) : CallsH Tryz.prog 53 #[v, w] H fun x H' => x = .bool (decide (a = b)) ∧ H' = H := by
  apply s53
  simp only [c53, ha.len, hb.len, Fld_ptr, add_mk, Nat.zero_add, List.getElem?_toArray, List.getElem?_cons_succ, List.getElem?_cons_zero, Get_some, Br_true, Br_false, nth_zero, nth_one, nth_two, extractV_tuple, fieldAddrV_ptr, nilV_ptr, load1V_ptr, pickV_bool, unV_not, lenV_slice, capV_slice, arithV_add, arithV_sub, arithV_eql, arithV_neq, arithV_lss, arithV_leq, arithV_gtr, arithV_geq, intConvV_int, neq_nat]
  refine Br_intro (fun hne => ⟨?_, trivial⟩) (fun heq => ?_)
  · have : a ≠ b := by rintro rfl; simp at hne
    rw [decide_eq_false this]
  · have hlen : a.length = b.length := by simpa using heq
    refine ⟨fun μ vs H' => ∃ i : Nat, vs = [.int .i64 i] ∧ μ = a.length - i ∧ i ≤ a.length ∧ H' = H ∧ a.take i = b.take i, ⟨_, 0, rfl, rfl, Nat.zero_le _, rfl, by simp⟩, ?_⟩
    rintro μ vs H ⟨i, rfl, rfl, hi, rfl, ht⟩
    simp only [Fld_ptr, add_mk, Nat.zero_add, List.getElem?_toArray, List.getElem?_cons_succ, List.getElem?_cons_zero, Get_some, Br_true, Br_false, nth_zero, nth_one, nth_two, extractV_tuple, fieldAddrV_ptr, nilV_ptr, load1V_ptr, pickV_bool, unV_not, lenV_slice, capV_slice, arithV_add, arithV_sub, arithV_eql, arithV_neq, arithV_lss, arithV_leq, arithV_gtr, arithV_geq, intConvV_int, dec_lt]
    refine Br_intro (fun hlt => ?_) (fun hlt => ?_)
    · have hlt' : i < a.length := by simpa using hlt
      obtain ⟨p, hp, hcp⟩ := strs_elem ha hlt'
      obtain ⟨q, hq, hcq⟩ := strs_elem hb (j := i) (by omega)
      simp only [hp, hq, Fld_ptr, add_mk, Nat.zero_add, List.getElem?_toArray, List.getElem?_cons_succ, List.getElem?_cons_zero, Get_some, Br_true, Br_false, nth_zero, nth_one, nth_two, extractV_tuple, fieldAddrV_ptr, nilV_ptr, load1V_ptr, pickV_bool, unV_not, lenV_slice, capV_slice, hcp, hcq, strV_neq']
      refine Br_intro (fun hne => ⟨?_, trivial⟩) (fun he => ?_)
      · rw [decide_eq_false (ne_of_get hlt' (by omega) (by simpa using hne))]
      · simp only [inc_i64 (show i < 2 ^ 62 by omega)]
        exact ⟨_, by omega, i + 1, rfl, rfl, hlt', trivial, take_succ_eq hlt' (by omega) ht (by simpa using he)⟩
    · have hi' : i = a.length := by simp at hlt; omega
      subst hi'
      rw [List.take_length, hlen, List.take_length] at ht
      rw [decide_eq_true ht]
      exact ⟨rfl, trivial⟩

/-- slices.EqualFunc of slices of pairs of cells, out of a comparison that tells equals apart -/
theorem equalFunc_core {α : Type} [DecidableEq α] {R : List Nat → Heap → α → List Value → Prop} (hR : RelOk R) {T : TypeId} {f : Nat} {z1 z2 : Value} {D D' : List Nat} {H : Heap} {v w : Value} {a b : List α} (ha : SlV 2 R D H v a) (hb : SlV 2 R D' H w b) (hl : a.length < 2 ^ 60) (hbody : hasBody Tryz.prog f = true)
    (hf : ∀ x ∈ a, ∀ y ∈ b, ∀ (us vs : List Value) (H1 : Heap), Frm [] H H1 → us.length = 2 → vs.length = 2 → R D H1 x us → R D' H1 y vs → CallsH Tryz.prog f #[.agg us.toArray, .agg vs.toArray] H1 fun r H2 => r = .bool (decide (x = y)) ∧ Frm [] H1 H2) (R0 : Value → Heap → Prop) (hK : ∀ H', Frm [] H H' → R0 (.bool (decide (a = b))) H') :
    Get (lenV v) fun x11 =>
    Get (lenV w) fun x13 =>
    Get (arithV .neq .i64 x11 x13) fun x14 =>
    Br x14 (
    R0 (.bool false) H) (
    Get (lenV v) fun x16 =>
    Loop [(.int .i64 0)] H fun K1 vs2 H =>
    Get (arithV .lss .i64 (nth vs2 0) x16) fun x18 =>
    Br x18 (
    Get (elemAddrV 2 v (nth vs2 0)) fun x20 =>
    Get (loadNV 2 x20 H) fun x21 =>
    New (.cells #[z1, z2] T (0, 0)) H fun x8 H =>
    Get (storeNV 2 x8 x21 H) fun H =>
    Get (elemAddrV 2 w (nth vs2 0)) fun x24 =>
    Get (loadNV 2 x24 H) fun x25 =>
    New (.cells #[z1, z2] T (0, 0)) H fun x9 H =>
    Get (storeNV 2 x9 x25 H) fun H =>
    Get (loadNV 2 x8 H) fun x27 =>
    Get (loadNV 2 x9 H) fun x28 =>
    CallV Tryz.prog (.func (.func f) #[] #[]) #[x27, x28] H fun x29 H =>
    Get (unV .not x29) fun x30 =>
    Br x30 (
    R0 (.bool false) H) (
    Get (arithV .add .i64 (nth vs2 0) (.int .i64 1)) fun x31 =>
    K1 [x31] H)) (
    R0 (.bool true) H)) := by
  simp only [ha.len, hb.len, Fld_ptr, add_mk, Nat.zero_add, List.getElem?_toArray, List.getElem?_cons_succ, List.getElem?_cons_zero, Get_some, Br_true, Br_false, nth_zero, nth_one, nth_two, extractV_tuple, fieldAddrV_ptr, nilV_ptr, load1V_ptr, pickV_bool, unV_not, lenV_slice, capV_slice, arithV_add, arithV_sub, arithV_eql, arithV_neq, arithV_lss, arithV_leq, arithV_gtr, arithV_geq, intConvV_int, neq_nat]
  refine Br_intro (fun hne => ?_) (fun heq => ?_)
  · have : a ≠ b := by rintro rfl; simp at hne
    rw [← decide_eq_false this]
    exact hK H (Frm.refl _ _)
  · have hlen : a.length = b.length := by simpa using heq
    refine ⟨fun μ vs H' => ∃ i : Nat, vs = [.int .i64 i] ∧ μ = a.length - i ∧ i ≤ a.length ∧ Frm [] H H' ∧ a.take i = b.take i, ⟨_, 0, rfl, rfl, Nat.zero_le _, Frm.refl _ _, by simp⟩, ?_⟩
    rintro μ vs H1 ⟨i, rfl, rfl, hi, f1, ht⟩
    simp only [Fld_ptr, add_mk, Nat.zero_add, List.getElem?_toArray, List.getElem?_cons_succ, List.getElem?_cons_zero, Get_some, Br_true, Br_false, nth_zero, nth_one, nth_two, extractV_tuple, fieldAddrV_ptr, nilV_ptr, load1V_ptr, pickV_bool, unV_not, lenV_slice, capV_slice, arithV_add, arithV_sub, arithV_eql, arithV_neq, arithV_lss, arithV_leq, arithV_gtr, arithV_geq, intConvV_int, dec_lt]
    refine Br_intro (fun hlt => ?_) (fun hlt => ?_)
    · have hlt' : i < a.length := by simpa using hlt
      have hltb : i < b.length := by omega
      obtain ⟨p, us, hp, hlu, hul, hRu, _⟩ := (ha.frm hR f1 (by simp)).elem hlt'
      obtain ⟨u1, u2, rfl⟩ : ∃ u1 u2, us = [u1, u2] := by
        match us, hul with
        | [u1, u2], _ => exact ⟨u1, u2, rfl⟩
      simp only [hp, Get_some, hlu]
      have o1 := hR.one hRu
      refine local2 (K := fun x8 H => _) (o1 u1 (by simp)) (o1 u2 (by simp)) fun H2 hb2 f2 z2 => ?_
      obtain ⟨q, ws, hq, hlw, hwl, hRw, _⟩ := (hb.frm hR (f1.trans f2) (by simp)).elem hltb
      obtain ⟨w1, w2, rfl⟩ : ∃ w1 w2, ws = [w1, w2] := by
        match ws, hwl with
        | [w1, w2], _ => exact ⟨w1, w2, rfl⟩
      simp only [hq, Get_some, hlw]
      have o2 := hR.one hRw
      refine local2 (K := fun x8 H => _) (o2 w1 (by simp)) (o2 w2 (by simp)) fun H3 hb3 f3 z3 => ?_
      have hb2' := f3.get hb2 (by simp)
      simp only [loadNV_of (n := 2) hb2' rfl, loadNV_of (n := 2) hb3 rfl, Get_some]
      refine ⟨f, #[], #[], rfl, hbody, ?_⟩
      have f13 := (f1.trans f2).trans f3
      refine (hf a[i] (List.getElem_mem hlt') b[i] (List.getElem_mem hltb) [u1, u2] [w1, w2] H3 f13 rfl rfl (hR.frm hRu (f2.trans f3) (by simp)) (hR.frm hRw f3 (by simp))).mono ?_
      rintro r H4 ⟨rfl, f4⟩
      simp only [Fld_ptr, add_mk, Nat.zero_add, List.getElem?_toArray, List.getElem?_cons_succ, List.getElem?_cons_zero, Get_some, Br_true, Br_false, nth_zero, nth_one, nth_two, extractV_tuple, fieldAddrV_ptr, nilV_ptr, load1V_ptr, pickV_bool, unV_not, lenV_slice, capV_slice]
      refine Br_intro (fun hne => ?_) (fun he => ?_)
      · have : a ≠ b := ne_of_get hlt' hltb (by simpa using hne)
        rw [← decide_eq_false this]
        exact hK _ (f13.trans f4)
      · simp only [arithV_add, arithV_sub, arithV_eql, arithV_neq, arithV_lss, arithV_leq, arithV_gtr, arithV_geq, intConvV_int, Fld_ptr, add_mk, Nat.zero_add, List.getElem?_toArray, List.getElem?_cons_succ, List.getElem?_cons_zero, Get_some, Br_true, Br_false, nth_zero, nth_one, nth_two, extractV_tuple, fieldAddrV_ptr, nilV_ptr, load1V_ptr, pickV_bool, unV_not, lenV_slice, capV_slice, inc_i64 (show i < 2 ^ 62 by omega)]
        exact ⟨_, by omega, i + 1, rfl, rfl, hlt', f13.trans f4, take_succ_eq hlt' hltb ht (by simpa using he)⟩
    · have hi' : i = a.length := by simp at hlt; omega
      subst hi'
      rw [List.take_length, hlen, List.take_length] at ht
      rw [← decide_eq_true ht]
      exact hK _ f1
end Go.Cps

/-
  spec.Printable, spec.find, spec.Free.
  Conditions: each contract's own.
-/
namespace Go.Cps
open Go Go.Proofs

def prB (b : UInt8) : Bool := decide (32 ≤ b.toNat) && decide (b.toNat ≤ 126)

theorem take_all_succ {p : UInt8 → Bool} {l : List UInt8} {i : Nat} (h : i < l.length) (ht : (l.take i).all p = true) : (l.take (i + 1)).all p = p l[i] := by
  rw [List.take_succ_eq_append_getElem h, List.all_append, ht]; simp
theorem all_false {p : UInt8 → Bool} {l : List UInt8} {i : Nat} (h : i < l.length) (hp : p l[i] = false) : l.all p = false := by
  rw [← Bool.not_eq_true, List.all_eq_true]
  intro ha
  rw [ha _ (List.getElem_mem h)] at hp
  cases hp

theorem printable_ok {l : List UInt8} {H : Heap} (hl : l.length < 2 ^ 40) : CallsH Tryz.prog 41 #[strVal l] H fun x H' => x = .bool (l.all prB) ∧ H' = H := by
  apply s41
  unfold c41
  refine ⟨fun μ vs H' => ∃ i : Nat, vs = [.int .i64 i] ∧ μ = l.length - i ∧ i ≤ l.length ∧ H' = H ∧ (l.take i).all prB = true, ⟨_, 0, rfl, rfl, Nat.zero_le _, rfl, by simp⟩, ?_⟩
  rintro μ vs H ⟨i, rfl, rfl, hi, rfl, ht⟩
  simp only [lenStr_of, Fld_ptr, add_mk, Nat.zero_add, List.getElem?_toArray, List.getElem?_cons_succ, List.getElem?_cons_zero, Get_some, Br_true, Br_false, nth_zero, nth_one, nth_two, extractV_tuple, fieldAddrV_ptr, nilV_ptr, load1V_ptr, pickV_bool, unV_not, lenV_slice, capV_slice, arithV_add, arithV_sub, arithV_eql, arithV_neq, arithV_lss, arithV_leq, arithV_gtr, arithV_geq, intConvV_int, dec_lt]
  refine Br_intro (fun hlt => ?_) (fun hlt => ?_)
  · have hlt' : i < l.length := by simpa using hlt
    have hp : prB l[i] = (!(decide (((l[i].toNat : Nat) : Int) < 32) || decide (((l[i].toNat : Nat) : Int) > 126))) := by
      unfold prB
      rw [Bool.eq_iff_iff]
      simp only [Bool.and_eq_true, decide_eq_true_eq, Bool.not_eq_true', Bool.or_eq_false_iff, decide_eq_false_iff_not]
      omega
    refine ⟨fun vs H' => vs = [.bool (!prB l[i])] ∧ H' = H, ?_, ?_⟩
    · simp only [strIndex_of hlt', Fld_ptr, add_mk, Nat.zero_add, List.getElem?_toArray, List.getElem?_cons_succ, List.getElem?_cons_zero, Get_some, Br_true, Br_false, nth_zero, nth_one, nth_two, extractV_tuple, fieldAddrV_ptr, nilV_ptr, load1V_ptr, pickV_bool, unV_not, lenV_slice, capV_slice, byteV, arithV_add, arithV_sub, arithV_eql, arithV_neq, arithV_lss, arithV_leq, arithV_gtr, arithV_geq, intConvV_int]
      refine Br_intro (fun h1 => ?_) (fun h1 => ?_)
      · simp only [Fld_ptr, add_mk, Nat.zero_add, List.getElem?_toArray, List.getElem?_cons_succ, List.getElem?_cons_zero, Get_some, Br_true, Br_false, nth_zero, nth_one, nth_two, extractV_tuple, fieldAddrV_ptr, nilV_ptr, load1V_ptr, pickV_bool, unV_not, lenV_slice, capV_slice, if_true, and_true]
        rw [hp, h1]; rfl
      · simp only [strIndex_of hlt', Fld_ptr, add_mk, Nat.zero_add, List.getElem?_toArray, List.getElem?_cons_succ, List.getElem?_cons_zero, Get_some, Br_true, Br_false, nth_zero, nth_one, nth_two, extractV_tuple, fieldAddrV_ptr, nilV_ptr, load1V_ptr, pickV_bool, unV_not, lenV_slice, capV_slice, byteV, arithV_add, arithV_sub, arithV_eql, arithV_neq, arithV_lss, arithV_leq, arithV_gtr, arithV_geq, intConvV_int, Bool.false_eq_true, if_false, and_true]
        rw [hp, h1]; simp
    · rintro _ H ⟨rfl, rfl⟩
      simp only [Fld_ptr, add_mk, Nat.zero_add, List.getElem?_toArray, List.getElem?_cons_succ, List.getElem?_cons_zero, Get_some, Br_true, Br_false, nth_zero, nth_one, nth_two, extractV_tuple, fieldAddrV_ptr, nilV_ptr, load1V_ptr, pickV_bool, unV_not, lenV_slice, capV_slice]
      refine Br_intro (fun h1 => ?_) (fun h1 => ?_)
      · rw [all_false hlt' (by simpa using h1)]
        exact ⟨rfl, trivial⟩
      · simp only [inc_i64 (show i < 2 ^ 62 by omega)]
        exact ⟨_, by omega, i + 1, rfl, rfl, hlt', trivial, by rw [take_all_succ hlt' ht]; simpa using h1⟩
  · have : i = l.length := by simp at hlt; omega
    subst this
    rw [List.take_length] at ht
    rw [ht]
    exact ⟨rfl, trivial⟩

theorem find_ok {v u : Value} {buf pat : List UInt8} {H : Heap} (hv : IsBytes H v buf) (hu : IsBytes H u pat) (hl : buf.length < 2 ^ 40) (hp : pat.length < 2 ^ 40) :
    CallsH Tryz.prog 42 #[v, u] H fun x H' => H' = H ∧ ((x = .int .i64 (-1) ∧ Nowhere buf pat) ∨ ∃ i : Nat, x = .int .i64 i ∧ First buf pat i) := by
  apply s42
  unfold c42
  refine ⟨fun μ vs H' => ∃ i : Nat, vs = [.int .i64 i] ∧ μ = buf.length + 1 - i ∧ i ≤ buf.length + 1 ∧ H' = H ∧ ∀ j, j < i → (buf.drop j).take pat.length ≠ pat, ⟨_, 0, rfl, rfl, Nat.zero_le _, rfl, by simp⟩, ?_⟩
  rintro μ vs H ⟨i, rfl, rfl, hi, rfl, hno⟩
  have e1 : IntKind.i64.wrap ((i : Int) + (pat.length : Int)) = ((i + pat.length : Nat) : Int) := by rw [wrap_i64 (by omega) (by omega)]; omega
  simp only [hv.len, hu.len, Fld_ptr, add_mk, Nat.zero_add, List.getElem?_toArray, List.getElem?_cons_succ, List.getElem?_cons_zero, Get_some, Br_true, Br_false, nth_zero, nth_one, nth_two, extractV_tuple, fieldAddrV_ptr, nilV_ptr, load1V_ptr, pickV_bool, unV_not, lenV_slice, capV_slice, arithV_add, arithV_sub, arithV_eql, arithV_neq, arithV_lss, arithV_leq, arithV_gtr, arithV_geq, intConvV_int, e1]
  refine Br_intro (fun hle => ?_) (fun hle => ?_)
  · have hle' : i + pat.length ≤ buf.length := by simp at hle; omega
    obtain ⟨y, hy, hyb⟩ := hv.from' (lo := i) (by omega) .i64
    simp only [hy, Get_some]
    refine (hasPrefix_ok hyb hu).mono ?_
    rintro x H1 ⟨rfl, rfl⟩
    have hiff : pat.isPrefixOf (buf.drop i) = decide ((buf.drop i).take pat.length = pat) := by
      rw [Bool.eq_iff_iff, List.isPrefixOf_iff_prefix, decide_eq_true_eq, List.prefix_iff_eq_take]
      exact eq_comm
    rw [hiff]
    refine Br_intro (fun h1 => ?_) (fun h1 => ?_)
    · exact ⟨rfl, .inr ⟨i, rfl, hle', by simpa using h1, hno⟩⟩
    · simp only [inc_i64 (show i < 2 ^ 62 by omega), Fld_ptr, add_mk, Nat.zero_add, List.getElem?_toArray, List.getElem?_cons_succ, List.getElem?_cons_zero, Get_some, Br_true, Br_false, nth_zero, nth_one, nth_two, extractV_tuple, fieldAddrV_ptr, nilV_ptr, load1V_ptr, pickV_bool, unV_not, lenV_slice, capV_slice]
      refine ⟨_, by omega, i + 1, rfl, rfl, by omega, trivial, fun j hj => ?_⟩
      by_cases hji : j = i
      · subst hji; simpa using h1
      · exact hno j (by omega)
  · refine ⟨trivial, .inl ⟨trivial, fun j hj => ?_⟩⟩
    have : ¬ i + pat.length ≤ buf.length := by simp at hle; omega
    exact hno j (by omega)

/-- a delimiter stands neither at the beginning of a body nor behind a LF -/
def FreeP (body bd : List UInt8) : Prop := (dashOf bd).isPrefixOf body = false ∧ Nowhere body (10 :: dashOf bd)

theorem first_not_nowhere {buf pat : List UInt8} {i : Nat} (h : First buf pat i) : ¬ Nowhere buf pat := fun hn => hn i h.1 h.2.1

theorem free_ok {v : Value} {body bd : List UInt8} {H : Heap} (hv : IsBytes H v body) (hvb : body ≠ [] → ∀ x, blk v = some x → x < H.size) (hl : body.length < 2 ^ 39) (hb : bd.length < 2 ^ 39) :
    CallsH Tryz.prog 25 #[v, strVal bd] H fun x H' => ∃ r : Bool, x = .bool r ∧ (r = true ↔ FreeP body bd) ∧ Frm [] H H' := by
  apply s25
  have e1 : strV .add (.string ⟨#[45, 45]⟩) (strVal bd) = some (strVal (dashOf bd)) := strV_add (a := [45, 45]) (b := bd) (by simp; omega)
  have hdl := dashOf_length bd
  simp only [c25, e1, Get_some]
  refine toBytes_of fun c H1 hc hr1 f1 z1 => ?_
  have hx1 : IsBytes H1 (.slice (some ⟨H.size, 0, none⟩) (dashOf bd).length c) (dashOf bd) := by
    have := hr1.bytes (o := 0) (c := c) (n := (dashOf bd).length) (by simp) hc
    rwa [List.drop_zero, List.take_length] at this
  have hv1 := hv.frm f1 (by simp)
  refine Join_direct ?_
  refine (hasPrefix_ok hv1 hx1).mono ?_
  rintro x H1 ⟨rfl, rfl⟩
  simp only [Fld_ptr, add_mk, Nat.zero_add, List.getElem?_toArray, List.getElem?_cons_succ, List.getElem?_cons_zero, Get_some, Br_true, Br_false, nth_zero, nth_one, nth_two, extractV_tuple, fieldAddrV_ptr, nilV_ptr, load1V_ptr, pickV_bool, unV_not, lenV_slice, capV_slice]
  refine Br_intro (fun h1 => ?_) (fun h1 => ?_)
  · have h1' : (dashOf bd).isPrefixOf body = false := by simpa using h1
    rw [show (Value.int IntKind.u8 10) = byteV 10 from rfl, fill1 (v := byteV 10) rfl, Get_some, NewSl]
    have f2 : Frm [] H1 (H1.push (.cells #[byteV 10] 5 (0, 0))) := Frm.push _ _ _
    have hb2 := push_same H1 (.cells #[byteV 10] 5 (0, 0))
    have z2 : (H1.push (.cells #[byteV 10] 5 (0, 0))).size = H1.size + 1 := by simp
    generalize H1.push (.cells #[byteV 10] 5 (0, 0)) = H2 at *
    have hown : OwnB H2 (some H1.size) (.slice (some ⟨H1.size, 0, none⟩) 1 1) [10] := ⟨#[byteV 10], rfl, hb2, rfl, by simp⟩
    refine append_own hown (hx1.frm f2 (by simp)) (by simp; omega) fun k' sl H3 hown3 f3 hk3 => ?_
    have hv3 : IsBytes H3 v body := (hv1.frm f2 (by simp)).frm' f3 (fun h0 y hy hm => by
      have := hvb h0 y hy
      have : y = H1.size := by simpa using hm
      omega)
    refine (find_ok hv3 hown3.bytes (by omega) (by simp; omega)).mono ?_
    have f13 : Frm [] H H3 := (f1.trans f2).up f3 (fun x hx => by
      have : x = H1.size := by simpa using hx
      exact .inr (by omega))
    rintro x H3 ⟨rfl, ⟨rfl, hno⟩ | ⟨i, rfl, hf⟩⟩
    · have d1 : decide ((-1 : Int) < 0) = true := by decide
      simp only [arithV_add, arithV_sub, arithV_eql, arithV_neq, arithV_lss, arithV_leq, arithV_gtr, arithV_geq, intConvV_int, Fld_ptr, add_mk, Nat.zero_add, List.getElem?_toArray, List.getElem?_cons_succ, List.getElem?_cons_zero, Get_some, Br_true, Br_false, nth_zero, nth_one, nth_two, extractV_tuple, fieldAddrV_ptr, nilV_ptr, load1V_ptr, pickV_bool, unV_not, lenV_slice, capV_slice, d1, if_true]
      exact ⟨true, rfl, ⟨fun _ => ⟨h1', hno⟩, fun _ => rfl⟩, f13⟩
    · have d1 : decide ((i : Int) < 0) = false := by simp
      simp only [arithV_add, arithV_sub, arithV_eql, arithV_neq, arithV_lss, arithV_leq, arithV_gtr, arithV_geq, intConvV_int, Fld_ptr, add_mk, Nat.zero_add, List.getElem?_toArray, List.getElem?_cons_succ, List.getElem?_cons_zero, Get_some, Br_true, Br_false, nth_zero, nth_one, nth_two, extractV_tuple, fieldAddrV_ptr, nilV_ptr, load1V_ptr, pickV_bool, unV_not, lenV_slice, capV_slice, d1, if_true]
      exact ⟨false, rfl, ⟨fun h => (by cases h), fun h => absurd h.2 (first_not_nowhere hf)⟩, f13⟩
  · simp only [Fld_ptr, add_mk, Nat.zero_add, List.getElem?_toArray, List.getElem?_cons_succ, List.getElem?_cons_zero, Get_some, Br_true, Br_false, nth_zero, nth_one, nth_two, extractV_tuple, fieldAddrV_ptr, nilV_ptr, load1V_ptr, pickV_bool, unV_not, lenV_slice, capV_slice, Bool.false_eq_true, if_false]
    refine ⟨false, rfl, ⟨fun h => (by cases h), fun h => ?_⟩, f1⟩
    rw [h.1] at h1
    cases h1
end Go.Cps

/-
  zzFits of fields; spec.Fields.
  Conditions: each contract's own.
-/
namespace Go.Cps
open Go Go.Proofs

def isBool (x : Value) : Prop := ∃ r : Bool, x = .bool r
structure GoodField (bd : List UInt8) (f : FieldL) : Prop where
  name : f.name.length ≤ 200
  file : f.file.length ≤ 200
  pname : f.name.all prB = true
  pfile : f.file.all prB = true
  slash : 47 ∉ f.file
  free : FreeP f.value bd

end Go.Cps

/-
  spec.Quote, escapeQuotes.
  Conditions: printable texts.
-/
namespace Go.Cps
open Go Go.Proofs

def quote1 (b : UInt8) : List UInt8 := if b = 92 ∨ b = 34 then [92, b] else [b]
def quoteB (l : List UInt8) : List UInt8 := l.flatMap quote1
theorem quoteB_len (l : List UInt8) : (quoteB l).length ≤ 2 * l.length := by
  induction l with
  | nil => simp [quoteB]
  | cons b r ih =>
    have : (quote1 b).length ≤ 2 := by unfold quote1; split <;> simp
    simp only [quoteB, List.flatMap_cons, List.length_append, List.length_cons] at ih ⊢
    omega
end Go.Cps

/-
  spec.FieldParts.
  Conditions: short names.
-/
namespace Go.Cps
open Go Go.Proofs

def cdKey : List UInt8 := [67, 111, 110, 116, 101, 110, 116, 45, 68, 105, 115, 112, 111, 115, 105, 116, 105, 111, 110]
def ctKey : List UInt8 := [67, 111, 110, 116, 101, 110, 116, 45, 84, 121, 112, 101]
def octet : List UInt8 := [97, 112, 112, 108, 105, 99, 97, 116, 105, 111, 110, 47, 111, 99, 116, 101, 116, 45, 115, 116, 114, 101, 97, 109]
def dName : List UInt8 := [102, 111, 114, 109, 45, 100, 97, 116, 97, 59, 32, 110, 97, 109, 101, 61, 34]
def dFile : List UInt8 := [59, 32, 102, 105, 108, 101, 110, 97, 109, 101, 61, 34]
def dispOf (f : FieldL) : List UInt8 := if f.file = [] then dName ++ quoteB f.name ++ [34] else (dName ++ quoteB f.name ++ [34]) ++ (dFile ++ quoteB f.file ++ [34])
def fieldHead (f : FieldL) : List Hdr := if f.file = [] then [(cdKey, [dispOf f])] else [(cdKey, [dispOf f]), (ctKey, [octet])]
theorem newSl_of {cs : Array Value} {T n : Nat} {H : Heap} {K : Value → Heap → Prop} (hK : ∀ H', H'[H.size]? = some (.cells cs T (0, 0)) → Frm [] H H' → H'.size = H.size + 1 → K (.slice (some ⟨H.size, 0, none⟩) n n) H') : NewSl cs T n H K :=
  hK _ (push_same _ _) (Frm.push _ _ _) (by simp)

theorem agg2 {z1 z2 a b : Value} (ha : isOne a = true) (hb : isOne b = true) (hz : True) : fillV #[(0, 1), (1, 1)] #[z1, z2] [(0, a), (1, b)] = some #[a, b] := by
  rw [fillV_cons ha rfl (by simp), fillV_cons hb rfl (by simp), fillV_nil]; rfl

end Go.Cps
