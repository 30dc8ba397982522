/-
  A part of the proof (its texts: L61, L62, L63, L72, L74): each text says below what it proves.
  Conditions: each contract's own.
-/
import Derived.Test.YtfajmapajpfocaaGreatDoorE25
set_option linter.all false
/-
  The text of a body of parts; one part of it read.
  Conditions: the parts are good ones.
-/
namespace Go.Cps
open Go Go.Proofs

/-- a part as it stands in a body: its lines, its body -/
abbrev PartIn := List (List UInt8 × List UInt8) × List UInt8
def partIn (p : PartIn) : List UInt8 := linesText p.1 ++ 13 :: 10 :: p.2
/-- what stands behind a delimiter's first bytes: the parts left; the last one may be cut -/
def tailT (bd : List UInt8) (cut : Option PartIn) : List PartIn → List UInt8
  | [] => match cut with
    | none => [45, 45, 13, 10]
    | some p => 13 :: 10 :: partIn p
  | p :: r => 13 :: 10 :: (partIn p ++ (nldOf bd ++ tailT bd cut r))
/-- the whole body -/
def wholeT (bd : List UInt8) (cut : Option PartIn) (ps : List PartIn) : List UInt8 := if ps = [] ∧ cut = none then nldOf bd ++ tailT bd cut ps else dashOf bd ++ tailT bd cut ps

structure GoodIn (bd : List UInt8) (p : PartIn) : Prop where
  lines : ∀ kv ∈ p.1, LineOk kv
  few : p.1.length ≤ 110
  nw : Nowhere p.2 (nldOf bd)
  dash : (dashOf bd).isPrefixOf p.2 = false
  small : p.2.length < 2 ^ 38
/-- what reading makes of a part -/
def resOf (p : PartIn) : PartL := (sortHs (hdrOf p.1), p.2)

theorem dash_tail {bd b t : List UInt8} (hb : BdR bd) (h : (dashOf bd).isPrefixOf b = false) : (dashOf bd).isPrefixOf (b ++ (nldOf bd ++ t)) = false := by
  rw [← Bool.not_eq_true] at h ⊢
  intro hp
  apply h
  rw [List.isPrefixOf_iff_prefix] at hp ⊢
  by_cases hl : (dashOf bd).length ≤ b.length
  · exact List.prefix_of_prefix_length_le hp (List.prefix_append _ _) hl
  · exfalso
    obtain ⟨r, hr⟩ := hp
    have hlt : b.length < (dashOf bd).length := by omega
    have h1 : (b ++ (nldOf bd ++ t))[b.length]? = some 13 := by
      rw [List.getElem?_append_right (Nat.le_refl _), Nat.sub_self]
      rfl
    rw [← hr, List.getElem?_append_left hlt] at h1
    exact dash_nocr hb (List.mem_of_getElem? h1)

theorem tailT_full (bd : List UInt8) (cut : Option PartIn) (ps : List PartIn) : FullT (tailT bd cut ps) := by
  cases ps with
  | nil =>
    cases cut with
    | none => exact fullT_end _
    | some p => exact fullT_crlf _
  | cons p r => exact fullT_crlf _

/-- a part that NextRawPart has given, with what it is read from -/
structure Given (S : Stk) (mr tb : Nat) (m : MRf) (bd : List UInt8) (B : Nat) (ea ua : Addr) (mode : Option (List UInt8)) (p : PartIn) (pt hm : Nat) (E : List Ent) (H : Heap) : Prop where
  rb : ∃ s, RB (rawEnv S mr tb { m with parts := m.parts + 1, cur := .pointer (some ⟨pt, 0, none⟩) } bd B ea ua mode pt hm) p.2 0 0 .go false s H
  ents : ∃ N, Ents H hm N E
  hd : E.map Ent.hd = hdrOf p.1

theorem nextRaw_ok {S : Stk} {mr tb : Nat} {m : MRf} {bd : List UInt8} {B : Nat} {ea ua : Addr} {H : Heap} {X : List Nat} {pre : List UInt8} {p : PartIn} {mode : Option (List UInt8)} (hcl : Closes S mr tb m bd B ea ua (pre ++ (dashOf bd ++ 13 :: 10 :: (partIn p ++ modeTail bd mode))) X H) (hb : GoodBd bd)
    (hpre : (m.parts = 0 ∧ pre = []) ∨ (0 < m.parts ∧ m.parts < 2 ^ 40 ∧ pre = [13, 10])) (hp : GoodIn bd p) (hmode : ∀ t, mode = some t → FullT t) (hX : ∀ x ∈ X, x < H.size) (hbr : BdR bd) :
    CallsH Tryz.prog 71 #[.pointer (some ⟨mr, 0, none⟩), .bool true, .int .i64 10485760, .int .i64 10000] H fun x H' => ∃ pt hm E, x = .tuple #[.pointer (some ⟨pt, 0, none⟩), .nilIface] ∧ Given S mr tb m bd B ea ua mode p pt hm E H' ∧ Frm (mr :: X ++ S.ids) H H' ∧ H.size ≤ pt ∧ pt < H'.size := by
  have hd0 : (dashOf bd).isPrefixOf (p.2 ++ modeTail bd mode) = false := by
    cases mode with
    | none => simpa [modeTail] using hp.dash
    | some t => exact dash_tail hbr hp.dash
  refine next_ok (pre := pre) (r := partIn p ++ modeTail bd mode) (by simpa [dashOf] using hcl) hb hpre fun H1 s1 h1 hr1 f1 => ?_
  refine (newPart_ok h1 (ls := p.1) (b := p.2) (mode := mode) (by rw [hr1]; simp [partIn]) hp.lines hp.few hp.nw hd0 hmode hp.small).mono ?_
  rintro x H2 ⟨pt, hm, N, E, s2, rfl, hrb, hE, hhd, f2, hge, hlt, hblk⟩
  refine ⟨⟨pt, 0, none⟩, rfl, hrb.ma.hm, fun H3 hm3 f3 z3 => ⟨pt, hm, E, rfl, ⟨⟨s2, hrb.setm hm3 f3 ⟨rfl, rfl, rfl, rfl, rfl⟩⟩, ⟨N, hE.frm f3 (fun x hx => ?_)⟩, hhd⟩, ?_, ?_, ?_⟩⟩
  · have h4 := (hblk x hx).1
    have h5 := lt_of_some h1.ma.hm
    rw [List.mem_singleton]
    omega
  · exact (f1.trans (f2.mono (fun x hx => by simp [hx]))).trans (f3.mono (by simp))
  · have := f1.size; omega
  · omega

theorem allRaw_ok {S : Stk} {mr tb : Nat} {m : MRf} {bd : List UInt8} {B : Nat} {ea ua : Addr} {mode : Option (List UInt8)} {b : List UInt8} {pt hm : Nat} {s : St} {H : Heap} (h : RB (rawEnv S mr tb m bd B ea ua mode pt hm) b 0 0 .go false s H) (hv : ∀ x, blk S.v = some x → x < H.size) (htb : tb < H.size) (hB : B ≤ H.size) :
    CallsH Tryz.prog 68 #[.iface 116 (.pointer (some ⟨pt, 0, none⟩))] H fun x H' => ∃ k out d, x = .tuple #[out, .bool mode.isSome] ∧ OwnB H' k out d ∧ d <+: b ∧ (mode.isSome = true → d = b) ∧
      (∀ t, mode = some t → ∃ total s', RB (rawEnv S mr tb m bd B ea ua mode pt hm) [] 0 total .eof false s' H') ∧ Frm (pt :: S.ids) H H' ∧ (∀ g, k = some g → H.size ≤ g) := by
  have hlt : ∀ x ∈ pt :: mr :: tb :: S.ids, x < H.size := fun x hx => by
    rcases List.mem_cons.1 hx with rfl | hx
    · exact lt_of_some h.hp
    · rcases List.mem_cons.1 hx with rfl | hx
      · exact lt_of_some h.ma.hm
      · rcases List.mem_cons.1 hx with rfl | hx
        · exact htb
        · exact h.rd.ids_lt x hx
  refine (all_ok (e := rawEnv S mr tb m bd B ea ua mode pt hm) rfl h hB hlt hv).mono ?_
  rintro x H' ⟨k, out, d, b', total, ev, re, s', rfl, hout, hdb, h', hne, f, hk⟩
  cases mode with
  | none =>
    have hc := (h'.cut rfl).1
    cases ev with
    | go => exact absurd rfl hne
    | eof => exact absurd rfl hc
    | re => exact ⟨k, out, d, rfl, hout, ⟨b', hdb⟩, by simp, by simp, f, hk⟩
  | some t =>
    obtain ⟨_, hre, h1, h2⟩ := h'.full t rfl
    cases ev with
    | go => exact absurd rfl hne
    | re => exact absurd rfl h1
    | eof =>
      have hb0 : b' = [] := List.eq_nil_of_length_eq_zero (h2 rfl).symm
      subst hb0
      subst hre
      rw [List.append_nil] at hdb
      subst hdb
      exact ⟨k, out, d, rfl, hout, List.prefix_refl _, fun _ => rfl, fun t' ht' => ⟨total, s', h'⟩, f, hk⟩
end Go.Cps

/-
  impl.parts over NextRawPart: the parts of a body, whole or cut in the last one.
  Conditions: the parts are good ones.
-/
namespace Go.Cps
open Go Go.Proofs

theorem OwnS.new {α : Type} {w T : Nat} {R : List Nat → Heap → α → List Value → Prop} (hR : RelOk R) {D : List Nat} {H : Heap} {k : Option Nat} {v : Value} {l : List α} {g : Nat} (h : OwnS w T R D H k v l) (hg : H.size ≤ g) : OwnS w T R (g :: D) H k v l := by
  cases k with
  | none => exact h
  | some q =>
    obtain ⟨cells, c, rfl, hq, hc, hl, hqD, he⟩ := h
    have hql := lt_of_some hq
    refine ⟨cells, c, rfl, hq, hc, hl, fun hm => ?_, fun j hj => ?_⟩
    · rcases List.mem_cons.1 hm with rfl | hm
      · omega
      · exact hqD hm
    · obtain ⟨vs, g1, g2, g3⟩ := he j hj
      exact ⟨vs, g1, hR.sub (fun x hx => by
        simp only [List.mem_cons] at hx ⊢
        rcases hx with h | h | h
        · exact .inr (.inl h)
        · exact .inl h
        · exact .inr (.inr h)) (hR.new g2 hg), g3⟩

/-- one part more -/
theorem partStep_ok {S : Stk} {mr tb : Nat} {bd : List UInt8} {B : Nat} {ea ua : Addr} {Hs H : Heap} {n : Nat} {rs : List PartL} {p : PartIn} {mode : Option (List UInt8)} {k : Option Nat} {out : Value} {X : List Nat} {m : MRf} {E0 R1 K1 : Value → Heap → Prop} (h5 : S.tbf = 5) (hgb : GoodBd bd) (hbr : BdR bd)
    (hown : OwnS 2 39 PartR (X ++ mr :: S.ids) H k out rs) (hcl : Closes S mr tb m bd B ea ua ((if n = 0 then [] else [13, 10]) ++ (dashOf bd ++ 13 :: 10 :: (partIn p ++ modeTail bd mode))) X H) (hnp : m.parts = n) (hfr : Frm (mr :: S.ids) Hs H) (hkB : ∀ g, k = some g → Hs.size ≤ g) (hXB : ∀ x ∈ X, Hs.size ≤ x ∧ x < H.size)
    (hlow : (∀ x ∈ mr :: tb :: S.ids, x < Hs.size) ∧ (∀ x, blk S.v = some x → x < Hs.size) ∧ B ≤ Hs.size) (hp : GoodIn bd p) (hmode : ∀ t, mode = some t → FullT t) (hn : n < 2 ^ 35) (hrs : rs.length < 2 ^ 36)
    (hK : ∀ k' out' pt m' d H', OwnS 2 39 PartR (pt :: mr :: S.ids) H' k' out' (rs ++ [(sortHs (hdrOf p.1), d)]) → d <+: p.2 → (mode.isSome = true → d = p.2) → (∀ t, mode = some t → Closes S mr tb m' bd B ea ua (nldOf bd ++ t) [pt] H') → m'.parts = n + 1 → Frm (mr :: S.ids) Hs H' → (∀ g, k' = some g → Hs.size ≤ g) → Hs.size ≤ pt ∧ pt < H'.size → if mode.isSome then K1 out' H' else R1 out' H') :
    CallV Tryz.prog (.func (.func 39) #[.pointer (some ⟨mr, 0, none⟩)] #[]) #[] H fun x12 H =>
    Get (extractV x12 0) fun x13 =>
    Get (extractV x12 1) fun x14 =>
    Get (nilV2 .neq .nilIface x14) fun x16 =>
    Br x16 (
    CallsH Tryz.prog 66 #[x14] H fun x19 H => E0 x19 H) (
    CallsH Tryz.prog 67 #[x13] H fun x21 H =>
    Get (some (.iface 116 x13)) fun x24 =>
    CallsH Tryz.prog 68 #[x24] H fun x25 H =>
    Get (extractV x25 0) fun x26 =>
    Get (extractV x25 1) fun x27 =>
    Get ((fillV #[(0, 1), (1, 1)] #[(.slice none 0 0), (.slice none 0 0)] [(0, x21), (1, x26)]).map .agg) fun x31 =>
    Get (Instr.fill (fun j => some (j * 2, 2)) ((Array.range (1 * 2)).map ((#[(.slice none 0 0), (.slice none 0 0)] : Array Value)[· % 2]!)) [(0, x31)]) fun cs => NewSl cs 39 1 H fun x32 H =>
    Append 39 2 48 #[(.slice none 0 0), (.slice none 0 0)] out x32 H fun x33 H =>
    Get (unV .not x27) fun x35 =>
    Br x35 (R1 x33 H) (K1 x33 H)) := by
  have hHs := hfr.size
  refine ⟨39, #[.pointer (some ⟨mr, 0, none⟩)], #[], rfl, bodyd39, ?_⟩
  apply s39
  unfold c39
  apply s72
  unfold c72
  have hpre : (m.parts = 0 ∧ (if n = 0 then [] else [13, 10]) = ([] : List UInt8)) ∨ (0 < m.parts ∧ m.parts < 2 ^ 40 ∧ (if n = 0 then [] else [13, 10]) = ([13, 10] : List UInt8)) := by
    by_cases h0 : n = 0
    · exact .inl ⟨by omega, by rw [if_pos h0]⟩
    · exact .inr ⟨by omega, by omega, by rw [if_neg h0]⟩
  refine (nextRaw_ok hcl hgb hpre hp hmode (fun x hx => (hXB x hx).2) hbr).mono ?_
  rintro x H1 ⟨pt, hm, E, rfl, hg, f1, hge, hlt⟩
  obtain ⟨⟨s, hrb⟩, ⟨N, hE⟩, hhd⟩ := hg
  simp only [Fld_ptr, add_mk, Nat.zero_add, List.getElem?_toArray, List.getElem?_cons_succ, List.getElem?_cons_zero, Get_some, Br_true, Br_false, nth_zero, nth_one, nth_two, extractV_tuple, fieldAddrV_ptr, nilV_ptr, load1V_ptr, pickV_bool, unV_not, lenV_slice, capV_slice, nilV2_neq_nil]
  have f1' : Frm (mr :: S.ids) Hs H1 := hfr.up f1 (fun x hx => by
    simp only [List.cons_append, List.mem_cons, List.mem_append] at hx
    rcases hx with rfl | hx | hx
    · exact .inl (by simp)
    · exact .inr (hXB x hx).1
    · exact .inl (by simp [hx]))
  have hs1 := f1'.size
  have hDlt : ∀ x ∈ pt :: mr :: S.ids, x < H1.size := fun x hx => by
    rcases List.mem_cons.1 hx with rfl | hx
    · exact hlt
    · have := hlow.1 x (by
        rcases List.mem_cons.1 hx with rfl | hx
        · simp
        · simp [hx])
      omega
  -- what has come before, in the new heap, apart from the new part
  have hown1 : OwnS 2 39 PartR (pt :: mr :: S.ids) H1 k out rs := by
    have hk : ∀ x ∈ mr :: X ++ S.ids, k ≠ some x := fun x hx e => by
      have := (hown.lt x e).2
      apply this
      simp only [List.cons_append, List.mem_cons, List.mem_append] at hx ⊢
      rcases hx with h | h | h
      · exact .inr (.inl h)
      · exact .inl h
      · exact .inr (.inr h)
    have h0 := hown.new partR_ok (g := pt) hge
    have h1 := h0.frm partR_ok f1 (fun x hx => ⟨.inl (by
      simp only [List.cons_append, List.mem_cons, List.mem_append] at hx ⊢
      rcases hx with h | h | h
      · exact .inr (.inr (.inl h))
      · exact .inr (.inl h)
      · exact .inr (.inr (.inr h))), hk x hx⟩)
    exact h1.sub partR_ok (fun x hx => by
      simp only [List.mem_cons, List.mem_append] at hx ⊢
      rcases hx with h | h | h
      · exact .inl h
      · exact .inr (.inr (.inl h))
      · exact .inr (.inr (.inr h)))
  have hkl : ∀ x ∈ k.toList ++ pt :: mr :: S.ids, x < H1.size := fun x hx => by
    rcases List.mem_append.1 hx with h | h
    · exact (hown1.lt x (by simpa using h)).1
    · exact hDlt x h
  refine (headers_ok (D := k.toList ++ pt :: mr :: S.ids) hrb.hp rfl hE hhd (by have := hp.few; omega) hkl).mono ?_
  rintro hv H2 ⟨hhv, f2⟩
  have hrb2 := hrb.frm (X := []) f2 (by simp)
  have hs2 := f2.size
  refine (allRaw_ok hrb2 (fun x hx => by have := hlow.2.1 x hx; omega) (by have := hlow.1 tb (by simp); omega) (by have := hlow.2.2; omega)).mono ?_
  rintro x H3 ⟨kb, bv, d, rfl, hbv, hpre2, hdeq, hrb3, f3, hkb⟩
  have hsz3 := f3.size
  have hptB : Hs.size ≤ pt := by omega
  have hhv3 : HeadsV (k.toList ++ pt :: mr :: S.ids) H3 hv (sortHs (hdrOf p.1)) := hhv.frm headR_ok f3 (fun x hx => by
    rcases List.mem_cons.1 hx with rfl | hx
    · exact .inl (by simp)
    · exact .inl (by simp only [List.mem_append, List.mem_cons]; exact .inr (.inr (.inr hx))))
  have hbv3 : BytV (k.toList ++ pt :: mr :: S.ids) H3 bv d := hbv.bytV (fun g hg hm => by have h1 := hkb g hg; have h2 := hkl g hm; omega)
  have hbl : isOne bv = true := hbv3.isOne
  have e1 : fillV #[(0, 1), (1, 1)] #[(.slice none 0 0), (.slice none 0 0)] [(0, hv), (1, bv)] = some #[hv, bv] := by
    rw [fillV_cons hhv.isOne rfl (by simp), fillV_cons hbl rfl (by simp), fillV_nil]; rfl
  simp only [Fld_ptr, add_mk, Nat.zero_add, List.getElem?_toArray, List.getElem?_cons_succ, List.getElem?_cons_zero, Get_some, Br_true, Br_false, nth_zero, nth_one, nth_two, extractV_tuple, fieldAddrV_ptr, nilV_ptr, load1V_ptr, pickV_bool, unV_not, lenV_slice, capV_slice, e1, Option.map_some, fill2, NewSl]
  have f4 : Frm [] H3 (H3.push (.cells #[hv, bv] 39 (0, 0))) := Frm.push _ _ _
  have hb4 := push_same H3 (.cells #[hv, bv] 39 (0, 0))
  have z4 : (H3.push (.cells #[hv, bv] 39 (0, 0))).size = H3.size + 1 := by simp
  generalize H3.push (.cells #[hv, bv] 39 (0, 0)) = H4 at *
  have hkpt : ∀ x ∈ pt :: S.ids, k ≠ some x := fun x hx e => by
    apply (hown1.lt x e).2
    rcases List.mem_cons.1 hx with rfl | hx
    · simp
    · simp [hx]
  have hown4 := ((hown1.frm partR_ok f2 (by simp)).frm partR_ok f3 (fun x hx => ⟨.inl (by
    rcases List.mem_cons.1 hx with rfl | hx
    · simp
    · simp [hx]), hkpt x hx⟩)).frm partR_ok f4 (by simp)
  have f14 : Frm (mr :: S.ids) Hs H4 := ((f1'.trans (f2.mono (by simp))).up f3 (fun x hx => by
    rcases List.mem_cons.1 hx with rfl | hx
    · exact .inr hptB
    · exact .inl (by simp [hx]))).trans (f4.mono (by simp))
  refine append_one partR_ok (xs := [hv, bv]) (a := (sortHs (hdrOf p.1), d)) hown4 (fun i hi => by rw [cellH_of hb4]; simp) rfl ⟨hv, bv, rfl, hhv3.frm headR_ok f4 (by simp), hbv3.frm f4 (by simp)⟩ rfl (by omega) (by omega) (fun x hx => by have := hDlt x hx; omega) (by omega) fun k' out' H5 hown5 f5 hk5 => ?_
  have hK' := hK k' out' pt { m with parts := m.parts + 1, cur := .pointer (some ⟨pt, 0, none⟩) } d H5 hown5 hpre2 hdeq (fun t ht => ?_) (by show m.parts + 1 = _; omega) (f14.up f5 (fun x hx => .inr (hkB x (by simpa using hx)))) (fun g hg => ?_) ⟨hptB, by have := f5.size; omega⟩
  · cases hms : mode.isSome with
    | true =>
      rw [hms, if_pos rfl] at hK'
      simp only [Fld_ptr, add_mk, Nat.zero_add, List.getElem?_toArray, List.getElem?_cons_succ, List.getElem?_cons_zero, Get_some, Br_true, Br_false, nth_zero, nth_one, nth_two, extractV_tuple, fieldAddrV_ptr, nilV_ptr, load1V_ptr, pickV_bool, unV_not, lenV_slice, capV_slice, Bool.not_true]
      exact hK'
    | false =>
      rw [hms, if_neg (by simp)] at hK'
      simp only [Fld_ptr, add_mk, Nat.zero_add, List.getElem?_toArray, List.getElem?_cons_succ, List.getElem?_cons_zero, Get_some, Br_true, Br_false, nth_zero, nth_one, nth_two, extractV_tuple, fieldAddrV_ptr, nilV_ptr, load1V_ptr, pickV_bool, unV_not, lenV_slice, capV_slice, Bool.not_false]
      exact hK'
  · obtain ⟨total, s', hrb4⟩ := hrb3 t ht
    subst ht
    have hX5 : ∀ x ∈ k.toList, B ≤ x ∧ x ∉ pt :: mr :: tb :: S.ids ∧ blk S.v ≠ some x := fun x hx => by
      have hx' : k = some x := by simpa using hx
      have h1 := hkB x hx'
      have h2 := (hown1.lt x hx').2
      refine ⟨by have := hlow.2.2; omega, fun hm => ?_, fun e => by have := hlow.2.1 x e; omega⟩
      rcases List.mem_cons.1 hm with rfl | hm
      · exact h2 (by simp)
      · have := hlow.1 x hm; omega
    have hrb5 := (hrb4.frm (X := []) f4 (by simp)).frm f5 hX5
    have hs5 := f5.size
    exact closeRaw_ok hrb5 h5 (fun x hx => by have := hlow.2.1 x hx; omega) (by have := hlow.1 tb (by simp); omega) (by have := hlow.2.2; omega) rfl
  · rcases hk5 with e | ⟨g', e, hge'⟩
    · exact hkB g (by rw [← e, hg])
    · rw [hg] at e; cases e; omega
end Go.Cps

/-
  impl.Parts of a body of parts, whole or cut in the last one.
  Conditions: the parts are good ones.
-/
namespace Go.Cps
open Go Go.Proofs

theorem tail_pre (bd : List UInt8) (cut : Option PartIn) (ps : List PartIn) : nldOf bd ++ tailT bd cut ps = [13, 10] ++ (dashOf bd ++ tailT bd cut ps) := by simp [nldOf, dashOf]

theorem partsLoop_ok {S : Stk} {s : St} {mr tb : Nat} {m : MRf} {bd : List UInt8} {B : Nat} {ea ua : Addr} {H : Heap} {cut : Option PartIn} {ps : List PartIn} (h : PR S mr tb m bd B ea ua s H) (hr : s.rest S = wholeT bd cut ps) (hm : m.parts = 0) (hc : m.cur = .pointer none) (hgb : GoodBd bd)
    (hps : ∀ p ∈ ps, GoodIn bd p) (hcut : ∀ p, cut = some p → GoodIn bd p) (hn : ps.length < 2 ^ 34) :
    CallsH Tryz.prog 36 #[.func (.func 39) #[.pointer (some ⟨mr, 0, none⟩)] #[]] H fun x H' => ∃ y rs, x = .tuple #[y, .int .i64 (if cut.isSome then 2 else 1)] ∧ PartsV [] H' y rs ∧ Frm (mr :: S.ids) H H' ∧ (match cut with | none => rs = ps.map resOf | some p => ∃ d, d <+: p.2 ∧ rs = ps.map resOf ++ [(sortHs (hdrOf p.1), d)]) := by
  apply s36
  unfold c36
  have hbr := h.bdr
  have h5 := h.tbf
  have hlow : (∀ x ∈ mr :: tb :: S.ids, x < H.size) ∧ (∀ x, blk S.v = some x → x < H.size) ∧ B ≤ H.size := ⟨h.lt, h.vlt, h.base⟩
  refine ⟨fun μ vs H1 => ∃ done todo k out X m, ps = done ++ todo ∧ μ = todo.length ∧ vs = [out] ∧ OwnS 2 39 PartR (X ++ mr :: S.ids) H1 k out (done.map resOf) ∧
      Closes S mr tb m bd B ea ua ((if done = [] ∧ ¬ (todo = [] ∧ cut = none) then [] else [13, 10]) ++ (dashOf bd ++ tailT bd cut todo)) X H1 ∧ m.parts = done.length ∧ Frm (mr :: S.ids) H H1 ∧ (∀ g, k = some g → H.size ≤ g) ∧ ∀ x ∈ X, H.size ≤ x ∧ x < H1.size,
    ⟨_, [], ps, none, _, [], m, rfl, rfl, rfl, ⟨rfl, rfl⟩, .inl ⟨hc, s, h, ?_⟩, by simpa using hm, Frm.refl _ _, by simp, by simp⟩, ?_⟩
  · rw [hr, wholeT]
    by_cases he : ps = [] ∧ cut = none
    · rw [if_pos he, if_neg (by simp [he]), tail_pre]
    · rw [if_neg he, if_pos ⟨rfl, he⟩]; rfl
  clear h hr hm hc
  rintro μ vs H1 ⟨done, todo, k, out, X, m, hdt, rfl, rfl, hown, hcl, hnp, hfr, hkB, hXB⟩
  have hdl : done.length + todo.length = ps.length := by rw [hdt]; simp
  simp only [nth_zero]
  cases todo with
  | nil =>
    rw [List.append_nil] at hdt
    obtain rfl : done = ps := hdt.symm
    cases cut with
    | none =>
      rw [if_neg (by simp)] at hcl
      refine ⟨39, #[.pointer (some ⟨mr, 0, none⟩)], #[], rfl, bodyd39, ?_⟩
      apply s39
      unfold c39
      apply s72
      unfold c72
      refine (nextPart_end (by simpa [dashOf, tailT] using hcl) hgb).mono ?_
      rintro x H2 ⟨rfl, f2, s2, h2⟩
      simp only [Fld_ptr, add_mk, Nat.zero_add, List.getElem?_toArray, List.getElem?_cons_succ, List.getElem?_cons_zero, Get_some, Br_true, Br_false, nth_zero, nth_one, nth_two, extractV_tuple, fieldAddrV_ptr, nilV_ptr, load1V_ptr, pickV_bool, unV_not, lenV_slice, capV_slice, nilV2_neq_iface]
      refine (state_end h2.er.eof).mono ?_
      rintro x H3 ⟨rfl, rfl⟩
      have hown2 := hown.frm partR_ok f2 (fun x hx => ⟨.inl (by
        simp only [List.mem_append, List.mem_cons] at hx ⊢
        rcases hx with h | h
        · exact .inl h
        · exact .inr (.inr h)), fun e => (hown.lt x e).2 (by
        simp only [List.mem_append, List.mem_cons] at hx ⊢
        rcases hx with h | h
        · exact .inl h
        · exact .inr (.inr h))⟩)
      refine ⟨out, _, rfl, (hown2.slV partR_ok).sub partR_ok (by simp), hfr.up f2 (fun x hx => ?_), rfl⟩
      rcases List.mem_append.1 hx with hx | hx
      · exact .inr (hXB x hx).1
      · exact .inl (by simp [hx])
    | some p =>
      refine partStep_ok (ea := ea) (ua := ua) (mode := none) (n := done.length) h5 hgb hbr hown ?_ hnp hfr hkB hXB hlow (hcut p rfl) (by simp) (by omega) (by simp; omega) fun k' out' pt m' d H' g1 g2 g3 g4 g5 g6 g7 g8 => ?_
      · by_cases h0 : done = []
        · subst h0
          simpa [tailT, modeTail] using hcl
        · have h1 : ¬ done.length = 0 := fun e => h0 (List.eq_nil_of_length_eq_zero e)
          rw [if_neg h1]
          rw [if_neg (by simp [h0])] at hcl
          simpa [tailT, modeTail] using hcl
      · rw [if_neg (by simp)]
        exact ⟨out', _, rfl, (g1.slV partR_ok).sub partR_ok (by simp), g6, d, g2, rfl⟩
  | cons p todo =>
    refine partStep_ok (ea := ea) (ua := ua) (mode := some (tailT bd cut todo)) (n := done.length) h5 hgb hbr hown ?_ hnp hfr hkB hXB hlow (hps p (by rw [hdt]; simp)) (fun t ht => by cases ht; exact tailT_full _ _ _) (by omega) (by simp; omega) fun k' out' pt m' d H' g1 g2 g3 g4 g5 g6 g7 g8 => ?_
    · by_cases h0 : done = []
      · subst h0
        simpa [tailT, modeTail] using hcl
      · have h1 : ¬ done.length = 0 := fun e => h0 (List.eq_nil_of_length_eq_zero e)
        rw [if_neg h1]
        rw [if_neg (by simp [h0])] at hcl
        simpa [tailT, modeTail] using hcl
    · rw [if_pos (by rfl)]
      have hd := g3 rfl
      subst hd
      refine ⟨todo.length, by simp, done ++ [p], todo, k', out', [pt], m', by rw [hdt]; simp, rfl, rfl, ?_, ?_, ?_, g6, g7, ?_⟩
      · rw [List.map_append]; exact g1
      · rw [if_neg (by simp), ← tail_pre]; exact g4 _ rfl
      · rw [g5]; simp
      · intro x hx; rw [List.mem_singleton] at hx; subst hx; exact g8

theorem parts_ok {bd : List UInt8} {v : Value} {B : Nat} {ea ua : Addr} {H : Heap} {cut : Option PartIn} {ps : List PartIn} (hv : IsBytes H v (wholeT bd cut ps)) (hE : Errs B ea ua H) (hB : B ≤ H.size) (hgb : GoodBd bd) (hbr : BdR bd) (hl : (wholeT bd cut ps).length < 2 ^ 39)
    (hps : ∀ p ∈ ps, GoodIn bd p) (hcut : ∀ p, cut = some p → GoodIn bd p) (hn : ps.length < 2 ^ 34) :
    CallsH Tryz.prog 11 #[v, strVal bd] H fun x H' => ∃ y rs, x = .tuple #[y, .int .i64 (if cut.isSome then 2 else 1)] ∧ PartsV [] H' y rs ∧ Frm [] H H' ∧ (match cut with | none => rs = ps.map resOf | some p => ∃ d, d <+: p.2 ∧ rs = ps.map resOf ++ [(sortHs (hdrOf p.1), d)]) := by
  have hlen := hgb.len
  apply s11
  unfold c11
  refine (source_ok hv (by omega)).mono ?_
  rintro x H1 ⟨br, u, rfl, hbr1, hu, f1, hge, hvb, hbs⟩
  have h0 : 0 < H.size := by obtain ⟨t, f, h⟩ := hE.eof; exact lt_of_some h
  refine (newReader_ok hbr1 hu (fun x hx => ⟨(hvb x hx).2.1, (hvb x hx).2.2⟩) (hE.eof.frm f1 (by simp)) (by omega) (by omega) (by omega)).mono ?_
  rintro x H2 ⟨S, s, mr, tb, m, rfl, hrd, hmr, hrest, herr, hparts, hcur, hEt, hEv, f2, hge2, rfl, rfl, h5, htb⟩
  have f12 : Frm [] H H2 := f1.trans f2
  have hge3 : ∀ y ∈ mr :: tb :: S.ids, H.size ≤ y := fun y hy => by
    by_cases hyb : y = S.br
    · omega
    · have := hge2 y hy hyb; have := f1.size; omega
  have hPR : PR S mr tb m bd B ea ua s H2 := ⟨hrd, hmr, hE.frm f12 (by simp), hbr, fun x hx => by have := hge3 x hx; omega, ⟨hEt, hEv⟩, h5, fun x hx => by have := (hvb x hx).2.2; have := f2.size; omega, htb, by have := f12.size; omega⟩
  refine (partsLoop_ok hPR hrest hparts hcur hgb hps hcut hn).mono ?_
  rintro x H3 ⟨y, rs, rfl, hy, f3, hrs⟩
  simp only [Fld_ptr, add_mk, Nat.zero_add, List.getElem?_toArray, List.getElem?_cons_succ, List.getElem?_cons_zero, Get_some, Br_true, Br_false, nth_zero, nth_one, nth_two, extractV_tuple, fieldAddrV_ptr, nilV_ptr, load1V_ptr, pickV_bool, unV_not, lenV_slice, capV_slice]
  refine ⟨y, rs, rfl, hy, f12.up f3 (fun x hx => .inr (hge3 x ?_)), hrs⟩
  rcases List.mem_cons.1 hx with rfl | hx
  · simp
  · simp [hx]
end Go.Cps

/-
  spec.Form.
  Conditions: printable names, short; a boundary that SetBoundary takes; the whole is short.
-/
namespace Go.Cps
open Go Go.Proofs

def fieldIn (f : FieldL) : PartIn := (linesOf (fieldHead f), f.value)
/-- what is still to write -/
def remT (bd : List UInt8) (last : Option Nat) (ps : List PartIn) : List UInt8 := match last with
  | none => wholeT bd none ps
  | some _ => nldOf bd ++ tailT bd none ps

theorem delim_none (bd : List UInt8) : delimText none bd = dashOf bd ++ [13, 10] := by simp [delimText, dashOf]
theorem delim_some (p : Nat) (bd : List UInt8) : delimText (some p) bd = nldOf bd ++ [13, 10] := by simp [delimText, nldOf]

theorem remT_nil {bd : List UInt8} {last : Option Nat} : remT bd last [] = [13, 10, 45, 45] ++ bd ++ [45, 45, 13, 10] := by
  cases last <;> simp [remT, wholeT, tailT, nldOf]

theorem SlV.elem2 {α : Type} {w : Nat} {R : List Nat → Heap → α → List Value → Prop} {D : List Nat} {H H' : Heap} {v : Value} {l : List α} (h : SlV w R D H v l) (f : Frm [] H H') {j : Nat} (hj : j < l.length) :
    ∃ a vs, (∀ k : IntKind, elemAddrV w v (.int k j) = some (.pointer (some a))) ∧ loadNV w (.pointer (some a)) H' = some (.agg vs.toArray) ∧ vs.length = w ∧ R D H l[j] vs := by
  rcases h with ⟨b, o, c, rfl, h1, h2, h3, h4⟩ | ⟨_, _, rfl⟩
  · obtain ⟨vs, g1, g2, g3⟩ := h4 j hj
    have e : ∀ i, i < w → cellH H' ⟨b, o + j * w + i, none⟩ = vs[i]? := fun i hi => by
      rw [Nat.add_assoc, ← g3 i hi]
      simp only [cellH, f.same b h3 (by simp)]
    refine ⟨⟨b, o + j * w, none⟩, vs, fun k => ?_, ?_, g1, g2⟩
    · have := elemAddr_of (b := b) (o := o) (n := l.length) (c := c) (size := w) (k := k) (i := (j : Int)) (by omega) (by omega)
      simpa using this
    · have hc := cellsH_of (H := H') (b := b) (o := o + j * w) (vs := vs) (fun i hi => e i (by omega))
      rw [g1] at hc
      simp only [loadNV, hc, Option.map_some]
  · simp at hj
theorem WS.sub' {ob wr p : Nat} {k : Option Nat} : ∀ x ∈ ob :: k.toList, x ∈ WS.ids ob wr k (some p) := WS.sub
end Go.Cps

/-
  impl.Write of parts whose headers have ascending keys, each with values.
  Conditions: a boundary that SetBoundary takes; the whole is short.
-/
namespace Go.Cps
open Go Go.Proofs

def partInL (p : PartL) : PartIn := (linesOf p.1, p.2)
theorem remT_cons' {bd : List UInt8} {last : Option Nat} {p : PartL} {q : Nat} {r : List PartIn} : remT bd last (partInL p :: r) = (delimText last bd ++ headText p.1) ++ p.2 ++ remT bd (some q) r := by
  have hp : partIn (partInL p) = headText p.1 ++ p.2 := by simp [partIn, partInL, headText]
  cases last with
  | none =>
    have : wholeT bd none (partInL p :: r) = dashOf bd ++ tailT bd none (partInL p :: r) := by simp [wholeT]
    simp [remT, this, tailT, hp, delim_none]
  | some p =>
    simp [remT, tailT, hp, delim_some]

/-- keys that ascend, each with values -/
structure AscHead (hd : List Hdr) : Prop where
  asc : (hd.map (·.1)).Pairwise (· < ·)
  ne : ∀ p ∈ hd, p.2 ≠ [] ∧ p.2.length < 2 ^ 30
  len : hd.length < 2 ^ 30
  key : ∀ p ∈ hd, p.1.length < 2 ^ 40

theorem local2' {T : TypeId} {z1 z2 a b : Value} {H : Heap} {K : Value → Heap → Prop} (h1 : isOne a = true) (h2 : isOne b = true)
    (hK : ∀ H', H'[H.size]? = some (.cells #[a, b] T (0, 0)) → Frm [] H H' → H'.size = H.size + 1 → K (.pointer (some ⟨H.size, 0, none⟩)) H') :
    New (.cells #[z1, z2] T (0, 0)) H fun x5 H => Get (storeNV 2 x5 (.agg #[a, b]) H) fun H => K x5 H := by
  have hp := push_same H (.cells #[z1, z2] T (0, 0))
  have f0 : Frm [] H (H.push (.cells #[z1, z2] T (0, 0))) := Frm.push _ _ _
  have z0 : (H.push (.cells #[z1, z2] T (0, 0))).size = H.size + 1 := by simp
  simp only [New]
  generalize H.push (.cells #[z1, z2] T (0, 0)) = H0 at *
  rw [storeNV_of (vs := #[a, b]) (n := 2) hp rfl rfl (by simp [h1, h2]), Get_some]
  refine hK _ (upd_same (lt_of_some hp)) ⟨by simp; omega, fun k hk _ => ?_⟩ (by simpa using z0)
  rw [upd_ne (by omega)]
  exact f0.same k hk (by simp)
theorem part_shape {D : List Nat} {H : Heap} {p : PartL} {vs : List Value} (h : PartR D H p vs) : ∃ y z, vs = [y, z] ∧ HeadsV D H y p.1 ∧ BytV D H z p.2 := h

theorem write_ok {v : Value} {bd : List UInt8} {l : List PartL} {H : Heap} (hv : PartsV [] H v l) (hb : BdOk bd) (hl : (wholeT bd none (l.map partInL)).length < 2 ^ 36) (hn : l.length < 2 ^ 40) (hh : ∀ p ∈ l, AscHead p.1) :
    CallsH Tryz.prog 10 #[strVal bd, v] H fun x H' => ∃ y, x = .tuple #[y, .bool true] ∧ IsBytes H' y (wholeT bd none (l.map partInL)) ∧ Frm [] H H' := by
  have hlen := hb.len
  apply s10
  unfold c10
  rw [New]
  simp only [Fld_ptr, add_mk, Nat.zero_add, List.getElem?_toArray, List.getElem?_cons_succ, List.getElem?_cons_zero, Get_some, Br_true, Br_false, nth_zero, nth_one, nth_two, extractV_tuple, fieldAddrV_ptr, nilV_ptr, load1V_ptr, pickV_bool, unV_not, lenV_slice, capV_slice]
  generalize hH1 : H.push (.cells #[(.slice none 0 0), (.int .i64 0), (.int .i8 0)] 55 (0, 0)) = H1
  have f1 : Frm [] H H1 := by rw [← hH1]; exact Frm.push _ _ _
  have b1 : BufAt H.size none [] H1 := ⟨_, 0, by rw [← hH1]; exact push_same _ _, rfl, rfl⟩
  have z1 : H1.size = H.size + 1 := by rw [← hH1]; simp
  refine (newWriter_ok rfl).mono ?_
  rintro x H2 ⟨rfl, rfl⟩
  have f2 : Frm [] H1 (H1.push (.cells #[.iface 58 (.pointer (some ⟨H.size, 0, none⟩)), strVal [], .pointer none] 105 (0, 0))) := Frm.push _ _ _
  have b2 := b1.frm f2 (by simp) (by simp)
  have w2 : WrAt H1.size (.iface 58 (.pointer (some ⟨H.size, 0, none⟩))) [] (.pointer none) (H1.push (.cells #[.iface 58 (.pointer (some ⟨H.size, 0, none⟩)), strVal [], .pointer none] 105 (0, 0))) := push_same _ _
  refine (setBoundary_ok w2 hb).mono ?_
  rintro x H3 ⟨rfl, w3, f3⟩
  have b3 := b2.frm f3 (by simp; omega) (by simp)
  have f13 : Frm [] H H3 := (f1.trans f2).up f3 (fun x hx => by rw [List.mem_singleton] at hx; subst hx; exact .inr (by omega))
  have ws3 : WS H.size H.size H1.size bd none none [] H3 := ⟨b3, w3, by simp, ⟨Nat.le_refl _, by omega, by simp, by simp⟩, ⟨by omega, by simp, by simp, by simp⟩⟩
  simp only [nilV2_neq_nil, Fld_ptr, add_mk, Nat.zero_add, List.getElem?_toArray, List.getElem?_cons_succ, List.getElem?_cons_zero, Get_some, Br_true, Br_false, nth_zero, nth_one, nth_two, extractV_tuple, fieldAddrV_ptr, nilV_ptr, load1V_ptr, pickV_bool, unV_not, lenV_slice, capV_slice, hv.len]
  refine ⟨fun n vs H' => ∃ i acc k last, vs = [.int .i64 (i : Nat)] ∧ n = l.length - i ∧ i ≤ l.length ∧ WS H.size H.size H1.size bd k last acc H' ∧ Frm [] H H' ∧ acc ++ remT bd last ((l.map partInL).drop i) = wholeT bd none (l.map partInL), ⟨_, 0, [], none, none, rfl, rfl, Nat.zero_le _, ws3, f13, by simp [remT]⟩, ?_⟩
  rintro n vs H4 ⟨i, acc, k, last, rfl, rfl, hi, ws4, f4, hacc⟩
  have hal : acc.length < 2 ^ 36 := by rw [← hacc] at hl; simp at hl; omega
  simp only [Fld_ptr, add_mk, Nat.zero_add, List.getElem?_toArray, List.getElem?_cons_succ, List.getElem?_cons_zero, Get_some, Br_true, Br_false, nth_zero, nth_one, nth_two, extractV_tuple, fieldAddrV_ptr, nilV_ptr, load1V_ptr, pickV_bool, unV_not, lenV_slice, capV_slice, arithV_add, arithV_sub, arithV_eql, arithV_neq, arithV_lss, arithV_leq, arithV_gtr, arithV_geq, intConvV_int, dec_lt]
  refine Br_intro (fun hlt => ?_) (fun hlt => ?_)
  · have hlt' : i < l.length := by simpa using hlt
    obtain ⟨a, vs, ha, hlo, _, hR⟩ := hv.elem2 f4 hlt'
    obtain ⟨y, z, rfl, hy, hz⟩ := part_shape hR
    have hhd := hh l[i] (List.getElem_mem hlt')
    have hdrop : (l.map partInL).drop i = partInL l[i] :: (l.map partInL).drop (i + 1) := by
      rw [List.drop_eq_getElem_cons (by simpa using hlt'), List.getElem_map]
    generalize hfe : l[i] = p at *
    have hpl : acc.length + (delimText last bd).length + (headText p.1).length + p.2.length < 2 ^ 36 := by
      rw [← hacc, hdrop, remT_cons' (q := 0)] at hl
      simp at hl
      omega
    have hs4 := f4.size
    have key : ∀ (k' : Option Nat) (q : Nat) (H' : Heap), WS H.size H.size H1.size bd k' (some q) (acc ++ (delimText last bd ++ headText p.1) ++ p.2) H' → Frm [] H H' → ∃ n', n' < l.length - i ∧ ∃ i' acc k last, [Value.int .i64 ((i + 1 : Nat) : Int)] = [.int .i64 (i' : Nat)] ∧ n' = l.length - i' ∧ i' ≤ l.length ∧ WS H.size H.size H1.size bd k last acc H' ∧ Frm [] H H' ∧ acc ++ remT bd last ((l.map partInL).drop i') = wholeT bd none (l.map partInL) := by
      intro k' q H' hw hfr
      refine ⟨_, by omega, i + 1, _, k', some q, rfl, rfl, hlt', hw, hfr, ?_⟩
      rw [← hacc, hdrop, remT_cons' (q := q)]
      simp
    simp only [ha, Get_some, hlo]
    refine local2' (K := fun x5 H => _) hy.isOne hz.isOne fun H5 hb5 f5 z5 => ?_
    have f15 := f4.trans f5
    have ws5 := ws4.frm f5 (by simp)
    have hs5 := f15.size
    simp only [Fld_ptr, add_mk, Nat.zero_add, List.getElem?_toArray, List.getElem?_cons_succ, List.getElem?_cons_zero, Get_some, Br_true, Br_false, nth_zero, nth_one, nth_two, extractV_tuple, fieldAddrV_ptr, nilV_ptr, load1V_ptr, pickV_bool, unV_not, lenV_slice, capV_slice, cellH_of hb5]
    refine (header_ok (hy.frm headR_ok f15 (by simp)) hhd.ne (hhd.asc.imp fun h e => by rw [e] at h; exact List.lt_irrefl _ h) hhd.len).mono ?_
    rintro x H6 ⟨m, N, E, rfl, hE, hEhd, f6, hEb, rfl⟩
    have f16 := f15.trans f6
    have ws6 := ws5.frm f6 (by simp)
    have hs6 := f16.size
    have hlt5 := ws5.lt
    have hEl : E.length = p.1.length := by rw [← hEhd, List.length_map]
    have hkl : ∀ e ∈ E, e.key.length < 2 ^ 40 := fun e he => hhd.key e.hd (by rw [← hEhd]; exact List.mem_map_of_mem he)
    have hb6 := f6.get hb5 (by simp)
    refine (createPart_ok (hs := p.1) ws6 hs6 hE (fun x hx hm => ?_) (by rw [hEhd]) hhd.asc hkl hhd.len (by omega) ?_).mono ?_
    · have := hEb x hx; have := (hlt5 x hm).1; omega
    · omega
    rintro x H7 ⟨q, k7, rfl, h7, f7, hq7, hk7⟩
    have hlt6 := ws6.lt
    have f17 : Frm [] H H7 := f16.up f7 (fun x hx => .inr (hlt6 x hx).2)
    have hb7 := f7.get hb6 (fun hm => by have := (ws4.lt _ hm).1; omega)
    have c7 : cellH H7 ⟨H4.size, 1, none⟩ = some z := by rw [cellH_of hb7]; rfl
    simp only [Fld_ptr, add_mk, Nat.zero_add, List.getElem?_toArray, List.getElem?_cons_succ, List.getElem?_cons_zero, Get_some, Br_true, Br_false, nth_zero, nth_one, nth_two, extractV_tuple, fieldAddrV_ptr, nilV_ptr, load1V_ptr, pickV_bool, unV_not, lenV_slice, capV_slice, nilV2_neq_nil, c7, fill0, NewSl, nilV_method (ahead103 _)]
    have hz7 := hz.frm f17 (by simp)
    have f8 : Frm [] H7 (H7.push (.cells #[] 5 (0, 0))) := Frm.push _ _ _
    have h0b : IsBytes (H7.push (.cells #[] 5 (0, 0))) (.slice (some ⟨H7.size, 0, none⟩) 0 0) [] := .inr ⟨_, rfl, rfl⟩
    generalize H7.push (.cells #[] 5 (0, 0)) = H8 at *
    have hb8 := f8.get hb7 (by simp)
    have hz8 := hz7.frm f8 (by simp)
    have ws8 := h7.frm f8 (by simp)
    have f18 := f17.trans f8
    have hlt8 := ws8.lt
    have hs8 := f18.size
    have hob4 := (ws4.lt H.size (by simp [WS.ids])).1
    have hs45 := f5.size
    have hs56 := f6.size
    have hs67 := f7.size
    have hlen8 : (acc ++ (delimText last bd ++ headText p.1)).length + p.2.length < 2 ^ 36 := by simp; omega
    refine ⟨⟨by rw [cellH_of hb8]; rfl, trivial⟩, ?_⟩
    refine append_empty hz8.1 (by omega) (fun h0 => ?_) (fun c H9 hc hr f9 z9 _ => ?_)
    · refine invoke_of 212 meth103 body212 ?_
      refine (partWrite_ok (d := []) ws8 h0b (fun y hy => ?_) (by rw [List.length_nil]; omega) hs8).mono ?_
      · simp only [blk, Option.some.injEq] at hy
        subst hy
        exact Nat.ne_of_gt (by omega)
      rintro x H9 ⟨rfl, k9, h9, f9, hk9⟩
      simp only [Fld_ptr, add_mk, Nat.zero_add, List.getElem?_toArray, List.getElem?_cons_succ, List.getElem?_cons_zero, Get_some, Br_true, Br_false, nth_zero, nth_one, nth_two, extractV_tuple, fieldAddrV_ptr, nilV_ptr, load1V_ptr, pickV_bool, unV_not, lenV_slice, capV_slice, nilV2_neq_nil, inc_i64 (show i < 2 ^ 62 by omega)]
      exact key k9 q H9 (by rw [h0]; exact h9) (f18.up f9 (fun x hx => .inr (hlt8 x (WS.sub' x hx)).2))
    · have hx9 : IsBytes H9 (.slice (some ⟨H8.size, 0, none⟩) p.2.length c) p.2 := by
        have := hr.bytes (o := 0) (c := c) (n := p.2.length) (by simp) hc
        rwa [List.drop_zero, List.take_length] at this
      have ws9 := ws8.frm f9 (by simp)
      have hlt9 := ws9.lt
      have f19 := f18.trans f9
      refine invoke_of 212 meth103 body212 ?_
      refine (partWrite_ok (d := p.2) ws9 hx9 (fun y hy => ?_) (by omega) f19.size).mono ?_
      · simp [blk] at hy
        have := f8.size
        omega
      rintro x H10 ⟨rfl, k10, h10, f10, hk10⟩
      simp only [Fld_ptr, add_mk, Nat.zero_add, List.getElem?_toArray, List.getElem?_cons_succ, List.getElem?_cons_zero, Get_some, Br_true, Br_false, nth_zero, nth_one, nth_two, extractV_tuple, fieldAddrV_ptr, nilV_ptr, load1V_ptr, pickV_bool, unV_not, lenV_slice, capV_slice, nilV2_neq_nil, inc_i64 (show i < 2 ^ 62 by omega)]
      exact key k10 q H10 h10 (f19.up f10 (fun x hx => .inr (hlt9 x (WS.sub' x hx)).2))
  · have hge : i = l.length := by have : ¬ i < l.length := by simpa using hlt
                                  omega
    have hrem : (l.map partInL).drop i = [] := by rw [hge]; simp
    rw [hrem, remT_nil] at hacc
    refine (close_ok ws4 (by omega)).mono ?_
    rintro x H5 ⟨rfl, k5, b5, f5⟩
    refine (bufBytes_ok b5).mono ?_
    rintro x H6 ⟨hx, hblk, rfl⟩
    simp only [nilV2_eql_nil, Fld_ptr, add_mk, Nat.zero_add, List.getElem?_toArray, List.getElem?_cons_succ, List.getElem?_cons_zero, Get_some, Br_true, Br_false, nth_zero, nth_one, nth_two, extractV_tuple, fieldAddrV_ptr, nilV_ptr, load1V_ptr, pickV_bool, unV_not, lenV_slice, capV_slice]
    have hf : Frm [] H H6 := f4.up f5 (fun x hx => .inr (ws4.lt x hx).2)
    exact ⟨_, rfl, by rw [← hacc]; exact hx, hf⟩
end Go.Cps
