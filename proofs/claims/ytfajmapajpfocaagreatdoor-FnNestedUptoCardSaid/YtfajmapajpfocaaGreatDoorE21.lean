/-
  A part of the proof (its texts: L44, L45): each text says below what it proves.
  Conditions: each contract's own.
-/
import Derived.Test.YtfajmapajpfocaaGreatDoorE13
import Derived.Test.YtfajmapajpfocaaGreatDoorE20
set_option linter.all false
/-
  readMIMEHeader: the loop over the lines.
  Conditions: the lines are good ones, and few.
-/
namespace Go.Cps
open Go Go.Proofs

theorem readHeader_ok {S : Stk} {s : St} {H : Heap} {tr : Nat} {ls : List (List UInt8 × List UInt8)} {q : List UInt8} (ht : TR S tr (.slice none 0 0) H) (htr : tr ∉ S.ids) (h : RdAt S s H) (h4 : Full4 H) (h40 : 4 ∉ S.ids ∧ 4 ≠ tr) (hvt : blk S.v ≠ some tr) (htr0 : tr ≠ 0) (hvs : ∀ x, blk S.v = some x → x < H.size) (hct : S.tbf = 5)
    (hr : s.rest S = linesText ls ++ 13 :: 10 :: q) (hls : ∀ kv ∈ ls, LineOk kv) (hn : ls.length ≤ 110) :
    CallsH Tryz.prog 164 #[.pointer (some ⟨tr, 0, none⟩), .int .i64 10485760, .int .i64 10000] H fun x H' => ∃ m N E s', x = .tuple #[.map (some m), .nilIface] ∧ Ents H' m N E ∧ E.map Ent.hd = hdrOf ls ∧ RdAt S s' H' ∧ s'.rest S = q ∧ Frm (tr :: S.ids) H H' ∧ (∀ x ∈ Ents.blks m E, H.size ≤ x) := by
  have d0 : decide ((10485760 : Int) < 0) = false := by decide
  have htl := lt_of_some ht
  have hidl := h.ids_lt
  have h4l : 4 < H.size := by obtain ⟨tt, v, t, f, h0⟩ := h4; exact lt_of_some h0
  apply s164
  simp only [c164, arithV_add, arithV_sub, arithV_eql, arithV_neq, arithV_lss, arithV_leq, arithV_gtr, arithV_geq, intConvV_int, Fld_ptr, add_mk, Nat.zero_add, List.getElem?_toArray, List.getElem?_cons_succ, List.getElem?_cons_zero, Get_some, Br_true, Br_false, nth_zero, nth_one, nth_two, extractV_tuple, fieldAddrV_ptr, nilV_ptr, load1V_ptr, pickV_bool, unV_not, lenV_slice, capV_slice, d0]
  refine (upcoming_ok ht htr h).mono ?_
  rintro x H1 ⟨n0, s1, rfl, hn0, h1, hr1, f1⟩
  have ht1 : TR S tr (.slice none 0 0) H1 := f1.get ht htr
  have h41 : Full4 H1 := by obtain ⟨tt, v, t, f, h0⟩ := h4; exact ⟨tt, v, t, f, f1.get h0 h40.1⟩
  refine ⟨fun vs H2 => ∃ (st : Value) (n : Nat) (sb : Option Nat), vs = [st, .int .i64 n] ∧ n ≤ 1000 ∧ Left H2 [] st n sb ∧ Frm [] H1 H2 ∧ ∀ b, sb = some b → H1.size ≤ b ∧ b < H2.size, ?_, ?_⟩
  · simp only [arithV_add, arithV_sub, arithV_eql, arithV_neq, arithV_lss, arithV_leq, arithV_gtr, arithV_geq, intConvV_int, Fld_ptr, add_mk, Nat.zero_add, List.getElem?_toArray, List.getElem?_cons_succ, List.getElem?_cons_zero, Get_some, Br_true, Br_false, nth_zero, nth_one, nth_two, extractV_tuple, fieldAddrV_ptr, nilV_ptr, load1V_ptr, pickV_bool, unV_not, lenV_slice, capV_slice]
    refine Br_intro (fun hh => ?_) (fun hh => ?_)
    · refine Join_direct ?_
      have d1 : decide ((n0 : Int) > 1000) = false := by simp; omega
      simp only [arithV_add, arithV_sub, arithV_eql, arithV_neq, arithV_lss, arithV_leq, arithV_gtr, arithV_geq, intConvV_int, Fld_ptr, add_mk, Nat.zero_add, List.getElem?_toArray, List.getElem?_cons_succ, List.getElem?_cons_zero, Get_some, Br_true, Br_false, nth_zero, nth_one, nth_two, extractV_tuple, fieldAddrV_ptr, nilV_ptr, load1V_ptr, pickV_bool, unV_not, lenV_slice, capV_slice, d1]
      refine makeStrs_of hn0 fun H2 f2 z2 hcl => ?_
      obtain ⟨cells, hc, hcs⟩ := hcl
      refine ⟨_, n0, some H1.size, rfl, hn0, ⟨_, rfl, .inr ⟨H1.size, 0, rfl, rfl, ⟨cells, hc, by omega⟩, by simp⟩⟩, f2, ?_⟩
      intro b hb; cases hb; omega
    · have hz : n0 = 0 := by simp at hh; omega
      subst hz
      exact ⟨_, 0, none, rfl, by omega, ⟨none, rfl, .inl rfl⟩, Frm.refl _ _, by simp⟩
  rintro _ H2 ⟨st, n, sb, rfl, hn2, hL2, f2, hsb2⟩
  simp only [Fld_ptr, add_mk, Nat.zero_add, List.getElem?_toArray, List.getElem?_cons_succ, List.getElem?_cons_zero, Get_some, Br_true, Br_false, nth_zero, nth_one, nth_two, extractV_tuple, fieldAddrV_ptr, nilV_ptr, load1V_ptr, pickV_bool, unV_not, lenV_slice, capV_slice, NewMapH]
  have f3 : Frm [] H2 (H2.push (.map #[] 0)) := Frm.push _ _ _
  have hm3 := mapAt_new H2
  have z3 : (H2.push (.map #[] 0)).size = H2.size + 1 := by simp
  generalize H2.push (.map #[] 0) = H3 at *
  have f13 : Frm [] H1 H3 := f2.trans f3
  have h3 : RdAt S s1 H3 := h1.frm f13 (by simp) (by simp) (by simp)
  have ht3 : TR S tr (.slice none 0 0) H3 := f13.get ht1 (by simp)
  obtain ⟨c0, r0, hc0, hlw, hc32, hc9⟩ := behind_head ls q hls
  have hrest1 : s1.rest S = c0 :: r0 := by rw [hr1, hr, hc0]
  simp only [Fld_ptr, add_mk, Nat.zero_add, List.getElem?_toArray, List.getElem?_cons_succ, List.getElem?_cons_zero, Get_some, Br_true, Br_false, nth_zero, nth_one, nth_two, extractV_tuple, fieldAddrV_ptr, nilV_ptr, load1V_ptr, pickV_bool, unV_not, lenV_slice, capV_slice, cellH_of ht3]
  refine (peek_ok h3 (n := 1) (by omega)).mono ?_
  rintro x H4 ⟨u, s4, rfl, hpk⟩
  have hlt1 : ¬ (s1.rest S).length < 1 := by rw [hrest1]; simp
  have hub := hpk.bytes
  rw [hrest1] at hub
  have hub' : IsBytes H4 u [c0] := by simpa using hub
  obtain ⟨a0, ha0, hca0⟩ := elem_at hub' (i := 0) (by simp) (by simp)
  rw [show ((0 : Nat) : Int) = 0 from rfl] at ha0
  simp only [Fld_ptr, add_mk, Nat.zero_add, List.getElem?_toArray, List.getElem?_cons_succ, List.getElem?_cons_zero, Get_some, Br_true, Br_false, nth_zero, nth_one, nth_two, extractV_tuple, fieldAddrV_ptr, nilV_ptr, load1V_ptr, pickV_bool, unV_not, lenV_slice, capV_slice, decide_eq_false hlt1]
  refine ⟨fun vs H' => vs = [.bool false] ∧ H' = H4, ?_, ?_⟩
  · have e1 : nilV2 .eql .nilIface (S.er false) = some (.bool true) := rfl
    have hb32 : (((c0.toNat : Nat) : Int) == 32) = false := by
      have := byte_beq c0 32
      rw [show ((32 : UInt8).toNat : Int) = 32 from rfl] at this
      rw [this]; simpa using hc32
    have hb9 : (((c0.toNat : Nat) : Int) == 9) = false := by
      have := byte_beq c0 9
      rw [show ((9 : UInt8).toNat : Int) = 9 from rfl] at this
      rw [this]; simpa using hc9
    simp only [e1, Fld_ptr, add_mk, Nat.zero_add, List.getElem?_toArray, List.getElem?_cons_succ, List.getElem?_cons_zero, Get_some, Br_true, Br_false, nth_zero, nth_one, nth_two, extractV_tuple, fieldAddrV_ptr, nilV_ptr, load1V_ptr, pickV_bool, unV_not, lenV_slice, capV_slice, ha0, hca0, List.getElem_cons_zero, byteV, arithV_add, arithV_sub, arithV_eql, arithV_neq, arithV_lss, arithV_leq, arithV_gtr, arithV_geq, intConvV_int, hb32, hb9, Bool.false_eq_true, if_false, if_true, and_self]
  rintro _ H4 ⟨rfl, rfl⟩
  simp only [Fld_ptr, add_mk, Nat.zero_add, List.getElem?_toArray, List.getElem?_cons_succ, List.getElem?_cons_zero, Get_some, Br_true, Br_false, nth_zero, nth_one, nth_two, extractV_tuple, fieldAddrV_ptr, nilV_ptr, load1V_ptr, pickV_bool, unV_not, lenV_slice, capV_slice]
  have f4 := hpk.frm
  have hsz3 : H.size ≤ H1.size := f1.size
  have hsz13 := f13.size
  have hsz4 := f4.size
  have hm4 : MapAt H4 H2.size [] := hm3.frm f4 (fun hm => by have := hidl _ hm; have := f2.size; omega)
  have hL4 : Left H4 [] st n sb := (hL2.frm f3 (by simp)).frm f4 (fun b hb hm => by have := hidl _ hm; have := (hsb2 b hb).1; omega)
  have ht4 : TR S tr (.slice none 0 0) H4 := f4.get ht3 htr
  have f14 : Frm (tr :: S.ids) H H4 := ((f1.mono (fun x hx => by simp [hx])).trans (f13.mono (by simp))).trans (f4.mono (fun x hx => by simp [hx]))
  refine ⟨fun μ vs H5 => ∃ done todo k st n sb E s5 mem, ls = done ++ todo ∧ μ = todo.length ∧ vs = [.int .i64 mem, .int .i64 (10000 - (done.length : Int)), st] ∧ 10485760 - 1300 * (done.length : Int) ≤ mem ∧ mem ≤ 10485760 ∧ HdAt S tr H.size H5 H2.size done.length E k st n sb s5 ∧ s5.rest S = linesText todo ++ 13 :: 10 :: q ∧ E.map Ent.hd = hdrOf done ∧ Frm (tr :: S.ids) H H5,
    ⟨_, [], ls, none, st, n, sb, [], s4, 10485760, rfl, rfl, by simp, by simp, by simp, ?_, by rw [hpk.rest, hr1, hr], rfl, f14⟩, ?_⟩
  · refine { rd := hpk.rd, tr_ := ⟨_, ht4, rfl⟩, ents := ⟨hm4, by simp, List.Pairwise.nil, by simp⟩, left := hL4, full := ?_, base := f14.size, trB := htl, idB := hidl, vB := hvs, blkB := ?_, sbB := ?_, kB := by simp, htr := htr, hvt := hvt, tr0 := htr0, four := ⟨h40.1, h40.2, h4l⟩ }
    · obtain ⟨tt, v, t, f, h0⟩ := h41
      exact ⟨tt, v, t, f, f4.get (f13.get h0 (by simp)) h40.1⟩
    · intro x hx
      simp only [Ents.blks, List.map_nil, List.mem_singleton] at hx
      subst hx
      exact ⟨by have := f2.size; omega, by simp⟩
    · intro b hb
      have h5 := hsb2 b hb
      exact ⟨by omega, by omega, by simp, by omega⟩
  rintro μ vs H5 ⟨done, todo, k, st, n, sb, E, s5, mem, hdt, rfl, rfl, hmem1, hmem2, hD, hr5, hhd, f5⟩
  clear hL4 hm4 ht4 hub hub' hca0 ha0 hL2 hsb2 hm3 ht3 ht1 h3 h1 hpk f14 f4 f13 f2 f3 f1 z3 hsz13 hsz4 hsz3
  have hdl : done.length + todo.length = ls.length := by rw [hdt]; simp
  obtain ⟨tbuf, ht5, ho5⟩ := hD.tr_
  cases todo with
  | nil =>
    simp only [Fld_ptr, add_mk, Nat.zero_add, List.getElem?_toArray, List.getElem?_cons_succ, List.getElem?_cons_zero, Get_some, Br_true, Br_false, nth_zero, nth_one, nth_two, extractV_tuple, fieldAddrV_ptr, nilV_ptr, load1V_ptr, pickV_bool, unV_not, lenV_slice, capV_slice]
    refine (contBlank_ok (lim := mem) ht5 hD.rd hD.full hD.four.1 hr5 (by simp at hdl; omega)).mono ?_
    rintro x H6 ⟨u, s6, rfl, h6, hu, hr6, f6, z6⟩
    have e0 : (((0 : Nat) : Int) == 0) = true := by decide
    simp only [Fld_ptr, add_mk, Nat.zero_add, List.getElem?_toArray, List.getElem?_cons_succ, List.getElem?_cons_zero, Get_some, Br_true, Br_false, nth_zero, nth_one, nth_two, extractV_tuple, fieldAddrV_ptr, nilV_ptr, load1V_ptr, pickV_bool, unV_not, lenV_slice, capV_slice, arithV_add, arithV_sub, arithV_eql, arithV_neq, arithV_lss, arithV_leq, arithV_gtr, arithV_geq, intConvV_int, hu.len, List.length_nil, e0]
    obtain ⟨hE6, _⟩ := hD.ents_frm f6 (fun x hx => .inl (hD.idB x hx))
    refine ⟨H2.size, done.length, E, s6, rfl, hE6, ?_, h6, hr6, f5.trans (f6.mono (fun x hx => by simp [hx])), fun x hx => (hD.blkB x hx).1⟩
    rw [hhd, hdt, List.append_nil]
  | cons kv todo =>
    have hkv : LineOk kv := hls kv (by rw [hdt]; simp)
    obtain ⟨c1, r1, hc1, hlw1, _, _⟩ := behind_head todo q (fun kv' hh => hls kv' (by rw [hdt]; simp [hh]))
    have hr5' : s5.rest S = lineOf kv ++ 13 :: 10 :: c1 :: r1 := by
      rw [hr5, ← hc1]; simp [linesText]
    have hlen := hkv.len
    have hlol : (lineOf kv).length = kv.1.length + kv.2.length + 2 := by simp [lineOf]; omega
    simp only [List.length_cons] at hdl
    have hlim : (10000 : Int) ≤ mem := by omega
    simp only [Fld_ptr, add_mk, Nat.zero_add, List.getElem?_toArray, List.getElem?_cons_succ, List.getElem?_cons_zero, Get_some, Br_true, Br_false, nth_zero, nth_one, nth_two, extractV_tuple, fieldAddrV_ptr, nilV_ptr, load1V_ptr, pickV_bool, unV_not, lenV_slice, capV_slice]
    refine (contLine_ok (k := k) (p := lineOf kv) (c := c1) (q := r1) ht5 ho5 hD.htr (fun g hg hm => ?_) hD.rd hD.full hD.four.1 hD.hvt (fun g hg hv => ?_) hD.tr0 (fun g hg => ?_) hr5' hkv.no_nl (by omega) (by simp [lineOf]) hlw1 hlim (by omega)).mono ?_
    · have := (hD.kB g hg).1
      rcases List.mem_cons.1 hm with rfl | hm
      · have := hD.trB; omega
      · have := hD.idB g hm; omega
    · have := (hD.kB g hg).1
      have := hD.vB g hv
      omega
    · have := (hD.kB g hg).1
      omega
    rintro x H6 ⟨u, s6, k', rfl, hc6, f6, hk'⟩
    obtain ⟨hE6, hL6⟩ := hD.ents_frm f6 (fun x hx => by
      simp only [List.cons_append, List.mem_cons, List.mem_append, Option.mem_toList] at hx
      rcases hx with rfl | hx | hx
      · exact .inl hD.trB
      · exact .inr (.inl hx)
      · exact .inl (hD.idB x hx))
    have hb6 := hc6.bytes
    rw [trimB_line hkv] at hb6
    have hne6 : ((((kv.1 ++ 58 :: valTail kv.2).length : Nat) : Int) == 0) = false := by rw [beq_eq_false_iff_ne]; simp; omega
    simp only [Fld_ptr, add_mk, Nat.zero_add, List.getElem?_toArray, List.getElem?_cons_succ, List.getElem?_cons_zero, Get_some, Br_true, Br_false, nth_zero, nth_one, nth_two, extractV_tuple, fieldAddrV_ptr, nilV_ptr, load1V_ptr, pickV_bool, unV_not, lenV_slice, capV_slice, arithV_add, arithV_sub, arithV_eql, arithV_neq, arithV_lss, arithV_leq, arithV_gtr, arithV_geq, intConvV_int, hb6.len, hne6]
    rw [trimB_line hkv] at hc6
    have hsz56 := f6.size
    have hbase := hD.base
    have hkB6 : ∀ g, k' = some g → H.size ≤ g ∧ g < H6.size := by
      intro g hg
      obtain ⟨tb, _, hoe⟩ := hc6.tr_
      rw [hg] at hoe
      obtain ⟨_, cells, _, hgc, _⟩ := hoe
      refine ⟨?_, lt_of_some hgc⟩
      rcases hk' with e | ⟨g', e, hge⟩
      · exact (hD.kB g (by rw [← e, hg])).1
      · rw [hg] at e; cases e; omega
    have hblk6 : ∀ x ∈ Ents.blks H2.size E, H.size ≤ x ∧ k' ≠ some x := by
      intro x hx
      refine ⟨(hD.blkB x hx).1, fun e => ?_⟩
      rcases hk' with e2 | ⟨g', e2, hge⟩
      · exact (hD.blkB x hx).2 (by rw [← e2, e])
      · rw [e] at e2; cases e2
        have := hD.ents.lt x hx
        omega
    have hsb6 : ∀ b, sb = some b → H.size ≤ b ∧ b < H6.size ∧ k' ≠ some b ∧ b ≠ H2.size := by
      intro b hb
      obtain ⟨g1, g2, g3, g4⟩ := hD.sbB b hb
      refine ⟨g1, by omega, fun e => ?_, g4⟩
      rcases hk' with e2 | ⟨g', e2, hge⟩
      · exact g3 (by rw [← e2, e])
      · rw [e] at e2; cases e2
        omega
    have hfull6 : Full4 H6 := by
      obtain ⟨tt, v, t, f, h0⟩ := hD.full
      refine ⟨tt, v, t, f, f6.get h0 (fun hm => ?_)⟩
      simp only [List.cons_append, List.mem_cons, List.mem_append, Option.mem_toList] at hm
      rcases hm with hm | hm | hm
      · exact hD.four.2.1 hm
      · have := (hD.kB 4 hm).1; have := hD.four.2.2; omega
      · exact hD.four.1 hm
    have hD6 : ∀ {H7 : Heap} {s7 : St} {tb : Value} {X : List Nat}, RdAt S s7 H7 → TR S tr tb H7 → OwnE H7 k' tb → Frm X H6 H7 → (∀ x ∈ X, x < H.size ∧ x ∉ [4] ∨ k' = some x) → HdAt S tr H.size H7 H2.size done.length E k' st n sb s7 := by
      intro H7 s7 tb X a1 a2 a3 a4 a5
      have hX : ∀ x ∈ X, x < H.size ∨ k' = some x := fun x hx => by
        rcases a5 x hx with h | h
        · exact .inl h.1
        · exact .inr h
      refine { rd := a1, tr_ := ⟨tb, a2, a3⟩, ents := hE6.frm a4 ?_, left := hL6.frm a4 ?_, full := ?_, base := by have := a4.size; omega, trB := hD.trB, idB := hD.idB, vB := hD.vB, blkB := hblk6, sbB := fun b hb => ?_, kB := fun g hg => ?_, htr := hD.htr, hvt := hD.hvt, tr0 := hD.tr0, four := hD.four }
      · intro x hx hm
        obtain ⟨g1, g2⟩ := hblk6 x hx
        rcases hX x hm with h | h
        · omega
        · exact g2 h
      · intro b hb hm
        obtain ⟨g1, g2, g3, _⟩ := hsb6 b hb
        rcases hX b hm with h | h
        · omega
        · exact g3 h
      · obtain ⟨tt, v, t, f, h0⟩ := hfull6
        refine ⟨tt, v, t, f, a4.get h0 (fun hm => ?_)⟩
        rcases a5 4 hm with h | h
        · exact h.2 (by simp)
        · have := (hkB6 4 h).1; have := hD.four.2.2; omega
      · obtain ⟨g1, g2, g3, g4⟩ := hsb6 b hb
        exact ⟨g1, by have := a4.size; omega, g3, g4⟩
      · obtain ⟨g1, g2⟩ := hkB6 g hg
        exact ⟨g1, by have := a4.size; omega⟩
    have hvl := valTail_len kv.2
    refine keyCut_ok hc6 hD.htr (fun g hg => ?_) hkv.key hkv.toks (by omega) hct fun z s7 H7 h7 hr7 hz7 ht7 hbz f7 => ?_
    · obtain ⟨g1, g2⟩ := hkB6 g hg
      refine ⟨fun hm => ?_, fun hv => ?_, ?_⟩
      · rcases List.mem_cons.1 hm with rfl | hm
        · have := hD.trB; omega
        · have := hD.idB g hm; omega
      · have := hD.vB g hv; omega
      · omega
    obtain ⟨tb7, ht7, ho7⟩ := ht7
    have hD7 : HdAt S tr H.size H7 H2.size done.length E k' st n sb s7 := hD6 h7 ht7 ho7 f7 (fun x hx => by
      simp only [List.mem_append, Option.mem_toList] at hx
      rcases hx with hx | hx
      · exact .inr hx
      · exact .inl ⟨hD.idB x hx, fun e => by rw [List.mem_singleton] at e; exact hD.four.1 (by rw [← e]; exact hx)⟩)
    refine valLoop_ok hz7 (valTail_print hkv.val) (by omega) ?_
    have em : IntKind.i64.wrap (10000 - (done.length : Int) - 1) = 10000 - ((done.length + 1 : Nat) : Int) := by rw [wrap_i64 (by omega) (by omega)]; omega
    have dm : decide ((10000 - ((done.length + 1 : Nat) : Int)) < 0) = false := by simp; omega
    simp only [arithV_add, arithV_sub, arithV_eql, arithV_neq, arithV_lss, arithV_leq, arithV_gtr, arithV_geq, intConvV_int, Fld_ptr, add_mk, Nat.zero_add, List.getElem?_toArray, List.getElem?_cons_succ, List.getElem?_cons_zero, Get_some, Br_true, Br_false, nth_zero, nth_one, nth_two, extractV_tuple, fieldAddrV_ptr, nilV_ptr, load1V_ptr, pickV_bool, unV_not, lenV_slice, capV_slice, em, dm]
    refine (trimLeft_ok hz7 (fun x hx => ?_) (by omega)).mono ?_
    · rcases hbz with e | e
      · rw [hx] at e
        cases e
        exact lt_of_some h7.hbf
      · rw [hx] at e
        exact (hD7.kB x e.symm).2
    rintro y H8 ⟨hy, f8⟩
    rw [valTail_drop hkv.val] at hy
    obtain ⟨hE8, hL8⟩ := hD7.ents_frm f8 (by simp)
    have h8 : RdAt S s7 H8 := h7.frm f8 (by simp) (by simp) (by simp)
    have ht8 : TR S tr tb7 H8 := f8.get ht7 (by simp)
    have ho8 := ho7.frm f8 (by simp)
    have estr : Value.string ⟨kv.2.toArray⟩ = strVal kv.2 := rfl
    simp only [hy.str, Get_some, estr]
    rw [lookup_of und106 hE8.map]
    have hsz8 := f8.size
    have hsz7 := f7.size
    have step : ∀ {H9 : Heap} {E' : List Ent} {st' : Value} {n' : Nat} {X : List Nat}, Ents H9 H2.size (done.length + 1) E' → Left H9 E' st' n' sb → Frm X H8 H9 → (∀ x ∈ X, x ∈ Ents.blks H2.size E ∨ sb = some x) → (∀ x ∈ Ents.blks H2.size E', x ∈ Ents.blks H2.size E ∨ sb = some x ∨ H8.size ≤ x) →
        HdAt S tr H.size H9 H2.size (done.length + 1) E' k' st' n' sb s7 ∧ Frm (tr :: S.ids) H H9 := by
      intro H9 E' st' n' X a1 a2 a3 a4 a5
      have hXB : ∀ x ∈ X, H.size ≤ x ∧ k' ≠ some x := fun x hx => by
        rcases a4 x hx with h | h
        · exact hblk6 x h
        · exact ⟨(hsb6 x h).1, (hsb6 x h).2.2.1⟩
      have hnX : ∀ x, x < H.size → x ∉ X := fun x hx hm => by have := (hXB x hm).1; omega
      refine ⟨{ rd := h8.frm a3 (fun x hx => hnX x (hD.idB x hx)) (fun x hx => hnX x (hD.vB x hx)) (hnX 0 (by omega)), tr_ := ⟨tb7, a3.get ht8 (hnX _ hD.trB), ho8.frm a3 (fun g hg hm => (hXB g hm).2 hg)⟩, ents := a1, left := a2, full := ?_, base := by have := a3.size; omega, trB := hD.trB, idB := hD.idB, vB := hD.vB, blkB := fun x hx => ?_, sbB := fun b hb => ?_, kB := fun g hg => ?_, htr := hD.htr, hvt := hD.hvt, tr0 := hD.tr0, four := hD.four }, ?_⟩
      · obtain ⟨tt, v, t, f, h0⟩ := hD7.full
        exact ⟨tt, v, t, f, a3.get (f8.get h0 (by simp)) (hnX 4 hD.four.2.2)⟩
      · rcases a5 x hx with h | h | h
        · exact hblk6 x h
        · exact ⟨(hsb6 x h).1, (hsb6 x h).2.2.1⟩
        · refine ⟨by omega, fun e => ?_⟩
          have := (hkB6 x e).2
          omega
      · obtain ⟨g1, g2, g3, g4⟩ := hsb6 b hb
        exact ⟨g1, by have := a3.size; omega, g3, g4⟩
      · obtain ⟨g1, g2⟩ := hkB6 g hg
        exact ⟨g1, by have := a3.size; omega⟩
      · refine (((f5.up f6 (fun x hx => ?_)).up f7 (fun x hx => ?_)).up f8 (by simp)).up a3 (fun x hx => .inr (hXB x hx).1)
        · simp only [List.cons_append, List.mem_cons, List.mem_append, Option.mem_toList] at hx ⊢
          rcases hx with hx | hx | hx
          · exact .inl (.inl hx)
          · exact .inr (hD.kB x hx).1
          · exact .inl (.inr hx)
        · simp only [List.mem_append, Option.mem_toList, List.mem_cons] at hx ⊢
          rcases hx with hx | hx
          · exact .inr (hkB6 x hx).1
          · exact .inl (.inr hx)
    have hnx : nilV2 .eql (.slice none 0 0) ((getE (canonG true kv.1) (E.map Ent.pair)).getD (.slice none 0 0)) = some (.bool (getE (canonG true kv.1) (E.map Ent.pair)).isNone) := by
      cases hg : getE (canonG true kv.1) (E.map Ent.pair) with
      | none => rfl
      | some u =>
        obtain ⟨A, e, B, _, _, rfl, _, _⟩ := getE_some hg
        rfl
    have hcl := canonG_length true kv.1
    refine ⟨fun vs H' => H' = H8 ∧ ∃ mem2 : Int, vs = [.int .i64 mem2] ∧ mem - 1201 ≤ mem2 - (kv.1.length : Int) * 0 ∧ mem2 ≤ mem ∧ mem - 200 - (kv.1.length : Int) ≤ mem2, ?_, ?_⟩
    · simp only [hnx, Fld_ptr, add_mk, Nat.zero_add, List.getElem?_toArray, List.getElem?_cons_succ, List.getElem?_cons_zero, Get_some, Br_true, Br_false, nth_zero, nth_one, nth_two, extractV_tuple, fieldAddrV_ptr, nilV_ptr, load1V_ptr, pickV_bool, unV_not, lenV_slice, capV_slice]
      refine Br_intro (fun hh => ?_) (fun hh => ?_)
      · have e1 : IntKind.i64.wrap (mem - ((kv.1.length : Nat) : Int)) = mem - (kv.1.length : Int) := wrap_i64 (by omega) (by omega)
        have e2 : IntKind.i64.wrap (mem - (kv.1.length : Int) - 200) = mem - (kv.1.length : Int) - 200 := wrap_i64 (by omega) (by omega)
        simp only [lenStr_of, hcl, Fld_ptr, add_mk, Nat.zero_add, List.getElem?_toArray, List.getElem?_cons_succ, List.getElem?_cons_zero, Get_some, Br_true, Br_false, nth_zero, nth_one, nth_two, extractV_tuple, fieldAddrV_ptr, nilV_ptr, load1V_ptr, pickV_bool, unV_not, lenV_slice, capV_slice, arithV_add, arithV_sub, arithV_eql, arithV_neq, arithV_lss, arithV_leq, arithV_gtr, arithV_geq, intConvV_int, e1, e2]
        exact ⟨trivial, _, rfl, by omega, by omega, by omega⟩
      · exact ⟨trivial, _, rfl, by omega, by omega, by omega⟩
    rintro _ H8 ⟨rfl, mem2, rfl, _, hm1, hm2⟩
    have e3 : IntKind.i64.wrap (mem2 - ((kv.2.length : Nat) : Int)) = mem2 - (kv.2.length : Int) := wrap_i64 (by omega) (by omega)
    have d3 : decide (mem2 - (kv.2.length : Int) < 0) = false := by simp; omega
    simp only [lenStr_of, Fld_ptr, add_mk, Nat.zero_add, List.getElem?_toArray, List.getElem?_cons_succ, List.getElem?_cons_zero, Get_some, Br_true, Br_false, nth_zero, nth_one, nth_two, extractV_tuple, fieldAddrV_ptr, nilV_ptr, load1V_ptr, pickV_bool, unV_not, lenV_slice, capV_slice, arithV_add, arithV_sub, arithV_eql, arithV_neq, arithV_lss, arithV_leq, arithV_gtr, arithV_geq, intConvV_int, e3, d3]
    refine ⟨fun vs H9 => ∃ st' n' E', vs = [st'] ∧ HdAt S tr H.size H9 H2.size (done.length + 1) E' k' st' n' sb s7 ∧ Frm (tr :: S.ids) H H9 ∧ E'.map Ent.hd = addH (canonG true kv.1) kv.2 (E.map Ent.hd), ?_, ?_⟩
    · refine Join_direct ?_
      simp only [hnx, Fld_ptr, add_mk, Nat.zero_add, List.getElem?_toArray, List.getElem?_cons_succ, List.getElem?_cons_zero, Get_some, Br_true, Br_false, nth_zero, nth_one, nth_two, extractV_tuple, fieldAddrV_ptr, nilV_ptr, load1V_ptr, pickV_bool, unV_not, lenV_slice, capV_slice]
      obtain ⟨a8, rfl, hl8⟩ := hL8
      have hL8 : Left H8 E (.slice a8 n n) n sb := ⟨a8, rfl, hl8⟩
      have happ : ∀ {K : Heap → Prop}, (∀ E' H', Ents H' H2.size (done.length + 1) E' → E'.map Ent.hd = addH (canonG true kv.1) kv.2 (E.map Ent.hd) → Left H' E' (.slice a8 n n) n sb → Frm (Ents.blks H2.size E) H8 H' → (∀ x ∈ Ents.blks H2.size E', x ∈ Ents.blks H2.size E ∨ H8.size ≤ x) → K H') → _ := fun {K} => appStr_ok (K := K) hE8 hL8 (fun b hb => by have := (hsb6 b hb).2.1; omega) (by omega)
      refine Br_intro (fun hh => ?_) (fun hh => ?_)
      · simp only [Fld_ptr, add_mk, Nat.zero_add, List.getElem?_toArray, List.getElem?_cons_succ, List.getElem?_cons_zero, Get_some, Br_true, Br_false, nth_zero, nth_one, nth_two, extractV_tuple, fieldAddrV_ptr, nilV_ptr, load1V_ptr, pickV_bool, unV_not, lenV_slice, capV_slice, arithV_add, arithV_sub, arithV_eql, arithV_neq, arithV_lss, arithV_leq, arithV_gtr, arithV_geq, intConvV_int, if_true]
        refine Br_intro (fun hn0 => ?_) (fun hn0 => ?_)
        · refine cutStr_ok hE8 hL8 (by simp at hn0; omega) (by simpa using hh) (fun e => (hsb6 _ e).2.2.2 rfl) fun E' st' H9 g1 g2 g3 g4 g5 g6 => ?_
          obtain ⟨q1, q2⟩ := step g1 g3 g4 (fun x hx => by
            rcases List.mem_cons.1 hx with rfl | hx
            · exact .inl (by simp [Ents.blks])
            · exact .inr (by simpa using hx)) (fun x hx => by
            rcases g6 x hx with h | h
            · exact .inl h
            · exact .inr (.inl h))
          exact ⟨st', n - 1, E', rfl, q1, q2, g2⟩
        · refine happ fun E' H9 g1 g2 g3 g4 g6 => ?_
          obtain ⟨q1, q2⟩ := step g1 g3 g4 (fun x hx => .inl hx) (fun x hx => by
            rcases g6 x hx with h | h
            · exact .inl h
            · exact .inr (.inr h))
          exact ⟨_, n, E', rfl, q1, q2, g2⟩
      · simp only [Fld_ptr, add_mk, Nat.zero_add, List.getElem?_toArray, List.getElem?_cons_succ, List.getElem?_cons_zero, Get_some, Br_true, Br_false, nth_zero, nth_one, nth_two, extractV_tuple, fieldAddrV_ptr, nilV_ptr, load1V_ptr, pickV_bool, unV_not, lenV_slice, capV_slice, arithV_add, arithV_sub, arithV_eql, arithV_neq, arithV_lss, arithV_leq, arithV_gtr, arithV_geq, intConvV_int, Bool.false_eq_true, if_false]
        refine happ fun E' H9 g1 g2 g3 g4 g6 => ?_
        obtain ⟨q1, q2⟩ := step g1 g3 g4 (fun x hx => .inl hx) (fun x hx => by
          rcases g6 x hx with h | h
          · exact .inl h
          · exact .inr (.inr h))
        exact ⟨_, n, E', rfl, q1, q2, g2⟩
    rintro _ H9 ⟨st', n', E', rfl, hD9, f9, hhd9⟩
    simp only [nilV2_neq_nil, Fld_ptr, add_mk, Nat.zero_add, List.getElem?_toArray, List.getElem?_cons_succ, List.getElem?_cons_zero, Get_some, Br_true, Br_false, nth_zero, nth_one, nth_two, extractV_tuple, fieldAddrV_ptr, nilV_ptr, load1V_ptr, pickV_bool, unV_not, lenV_slice, capV_slice]
    refine ⟨todo.length, by simp, done ++ [kv], todo, k', st', n', sb, E', s7, mem2 - (kv.2.length : Int), by rw [hdt]; simp, rfl, ?_, ?_, by omega, ?_, ?_, ?_, f9⟩
    · simp
    · simp; omega
    · simpa using hD9
    · rw [hr7, ← hc1]
    · rw [hhd9, hhd, hdrOf, hdrOf, hdrFrom_snoc]
end Go.Cps

/-
  textproto.NewReader, populateHeaders, newPart (of raw parts).
  Conditions: those of readHeader_ok.
-/
namespace Go.Cps
open Go Go.Proofs

theorem Frm.full {X : List Nat} {H H' : Heap} (f : Frm X H H') (h : Full4 H) (hx : 4 ∉ X) : Full4 H' := by
  obtain ⟨tt, v, t, fz, h0⟩ := h
  exact ⟨tt, v, t, fz, f.get h0 hx⟩

theorem newTP_ok {S : Stk} {H : Heap} : CallsH Tryz.prog 143 #[.pointer (some ⟨S.b, 0, none⟩)] H fun x H' => x = .pointer (some ⟨H.size, 0, none⟩) ∧ TR S H.size (.slice none 0 0) H' ∧ Frm [] H H' ∧ H'.size = H.size + 1 := by
  apply s143
  have e : fillV #[(0, 1), (1, 1), (2, 1)] #[(.pointer none), (.pointer none), (.slice none 0 0)] [(0, .pointer (some ⟨S.b, 0, none⟩))] = some #[.pointer (some ⟨S.b, 0, none⟩), .pointer none, .slice none 0 0] := by
    rw [fillV_cons rfl rfl (by simp), fillV_nil]; rfl
  simp only [c143, e, Option.map_some, Get_some, New, Value.cells]
  exact ⟨trivial, push_same _ _, Frm.push _ _ _, by simp⟩

theorem store_part {pt : Nat} {P : PF} {mr : Nat} {n total : Nat} {ev rv : Value} {T : TypeId} {H : Heap} {K : Heap → Prop} {v : Value} (h : H[pt]? = some (.cells (ptCells P mr n total ev rv) T (0, 0))) (hv : isOne v = true)
    (hK : ∀ H', H'[pt]? = some (.cells (ptCells { P with hdr := v } mr n total ev rv) T (0, 0)) → Frm [pt] H H' → H'.size = H.size → K H') : Get (store1V (.pointer (some ⟨pt, 0, none⟩)) v H) K := by
  refine Store_of h (by simp [ptCells]) hv fun H' h' f z => hK H' (by simpa [ptCells] using h') f z

theorem populate_ok {S : Stk} {s : St} {H : Heap} {mr tb pt : Nat} {m : MRf} {bd : List UInt8} {P : PF} {T : TypeId} {ls : List (List UInt8 × List UInt8)} {q : List UInt8} (hp : H[pt]? = some (.cells (ptCells P mr 0 0 .nilIface .nilIface) T (0, 0))) (hm : MRAt S mr tb m bd H) (h : RdAt S s H) (h4 : Full4 H) (h40 : 4 ∉ S.ids)
    (hvs : ∀ x, blk S.v = some x → x < H.size) (hct : S.tbf = 5) (hpt : pt ∉ S.ids) (hpv : blk S.v ≠ some pt) (hp0 : pt ≠ 0) (hr : s.rest S = linesText ls ++ 13 :: 10 :: q) (hls : ∀ kv ∈ ls, LineOk kv) (hn : ls.length ≤ 110) :
    CallsH Tryz.prog 114 #[.pointer (some ⟨pt, 0, none⟩), .int .i64 10485760, .int .i64 10000] H fun x H' => ∃ hm' N E s', x = .nilIface ∧ H'[pt]? = some (.cells (ptCells { P with hdr := .map (some hm') } mr 0 0 .nilIface .nilIface) T (0, 0)) ∧ Ents H' hm' N E ∧ E.map Ent.hd = hdrOf ls ∧ RdAt S s' H' ∧ s'.rest S = q ∧ Frm (pt :: S.ids) H H' ∧ (∀ x ∈ Ents.blks hm' E, H.size ≤ x) := by
  have hptl := lt_of_some hp
  have h4l : 4 < H.size := by obtain ⟨tt, v, t, f, h0⟩ := h4; exact lt_of_some h0
  have hidl := h.ids_lt
  apply s114
  simp only [c114, Fld_ptr, add_mk, Nat.zero_add, List.getElem?_toArray, List.getElem?_cons_succ, List.getElem?_cons_zero, Get_some, Br_true, Br_false, nth_zero, nth_one, nth_two, extractV_tuple, fieldAddrV_ptr, nilV_ptr, load1V_ptr, pickV_bool, unV_not, lenV_slice, capV_slice, cellH_of hp, ptCells, cellH_of hm.hm, MRf.cells, hm.hbr]
  refine newTP_ok.mono ?_
  rintro x H1 ⟨rfl, ht1, f1, z1⟩
  have h1 : RdAt S s H1 := h.frm f1 (by simp) (by simp) (by simp)
  have hp1 := f1.get hp (by simp)
  apply s144
  unfold c144
  apply s158
  unfold c158
  refine (readHeader_ok ht1 (fun hh => by have := hidl _ hh; omega) h1 (f1.full h4 (by simp)) ⟨h40, by omega⟩ (fun hh => by have := hvs _ hh; omega) (by omega) (fun x hx => by have := hvs x hx; omega) hct hr hls hn).mono ?_
  rintro x H2 ⟨hm', N, E, s', rfl, hE, hhd, h2, hr2, f2, hb2⟩
  have hp2 := f2.get hp1 (fun hh => by
    rcases List.mem_cons.1 hh with e | e
    · omega
    · exact hpt e)
  simp only [Fld_ptr, add_mk, Nat.zero_add, List.getElem?_toArray, List.getElem?_cons_succ, List.getElem?_cons_zero, Get_some, Br_true, Br_false, nth_zero, nth_one, nth_two, extractV_tuple, fieldAddrV_ptr, nilV_ptr, load1V_ptr, pickV_bool, unV_not, lenV_slice, capV_slice]
  refine Join_direct ?_
  simp only [nilV2_eql_nil, Fld_ptr, add_mk, Nat.zero_add, List.getElem?_toArray, List.getElem?_cons_succ, List.getElem?_cons_zero, Get_some, Br_true, Br_false, nth_zero, nth_one, nth_two, extractV_tuple, fieldAddrV_ptr, nilV_ptr, load1V_ptr, pickV_bool, unV_not, lenV_slice, capV_slice]
  refine store_part hp2 rfl fun H3 hp3 f3 z3 => ?_
  refine Join_direct ?_
  refine Join_direct ?_
  simp only [nilV2_neq_nil, Fld_ptr, add_mk, Nat.zero_add, List.getElem?_toArray, List.getElem?_cons_succ, List.getElem?_cons_zero, Get_some, Br_true, Br_false, nth_zero, nth_one, nth_two, extractV_tuple, fieldAddrV_ptr, nilV_ptr, load1V_ptr, pickV_bool, unV_not, lenV_slice, capV_slice, Bool.false_eq_true, if_false]
  have hE3 := hE.frm f3 (fun x hx => by have := hb2 x hx; rw [List.mem_singleton]; omega)
  have f02 : Frm (pt :: S.ids) H H2 := (f1.mono (by simp)).up f2 (fun x hx => by
    rcases List.mem_cons.1 hx with rfl | hx
    · exact .inr (Nat.le_refl _)
    · exact .inl (by simp [hx]))
  refine ⟨hm', N, E, s', trivial, hp3, hE3, hhd, h2.frm f3 (fun x hx => ?_) (fun x hx => ?_) ?_, hr2, f02.trans (f3.mono (by simp)), fun x hx => by have := hb2 x hx; omega⟩
  · rw [List.mem_singleton]; rintro rfl; exact hpt hx
  · rw [List.mem_singleton]; rintro rfl; exact hpv hx
  · rw [List.mem_singleton]; exact fun e => hp0 e.symm

/-- where a part is read, as newPart makes it -/
def rawEnv (S : Stk) (mr tb : Nat) (m : MRf) (bd : List UInt8) (B : Nat) (ea ua : Addr) (mode : Option (List UInt8)) (pt hm : Nat) : REnv :=
  ⟨S, mr, tb, m, bd, pt, ⟨.map (some hm), .string ⟨#[]⟩, .map none, .iface 189 (.agg #[.pointer (some ⟨pt, 0, none⟩)])⟩, 148, B, ea, ua, mode⟩
def modeTail (bd : List UInt8) (mode : Option (List UInt8)) : List UInt8 := match mode with | some t => nldOf bd ++ t | none => []

/-- the reader of parts, between two parts -/
structure PR (S : Stk) (mr tb : Nat) (m : MRf) (bd : List UInt8) (B : Nat) (ea ua : Addr) (s : St) (H : Heap) : Prop where
  rd : RdAt S s H
  ma : MRAt S mr tb m bd H
  er : Errs B ea ua H
  bdr : BdR bd
  low : ∀ x ∈ mr :: tb :: S.ids, B ≤ x
  hE : S.Et = 138 ∧ S.Ev = .pointer (some ea)
  tbf : S.tbf = 5
  vlt : ∀ x, blk S.v = some x → x < H.size
  tbl : tb < H.size
  base : B ≤ H.size

theorem PR.ids {S : Stk} {mr tb : Nat} {m : MRf} {bd : List UInt8} {B : Nat} {ea ua : Addr} {s s' : St} {H H' : Heap} (h : PR S mr tb m bd B ea ua s H) (hr : RdAt S s' H') (f : Frm S.ids H H') : PR S mr tb m bd B ea ua s' H' :=
  ⟨hr, h.ma.ids f, h.er.frm f (fun x hx => h.low x (by simp [hx])), h.bdr, h.low, h.hE, h.tbf, fun x hx => Nat.lt_of_lt_of_le (h.vlt x hx) f.size, Nat.lt_of_lt_of_le h.tbl f.size, Nat.le_trans h.base f.size⟩
theorem PR.lt {S : Stk} {mr tb : Nat} {m : MRf} {bd : List UInt8} {B : Nat} {ea ua : Addr} {s : St} {H : Heap} (h : PR S mr tb m bd B ea ua s H) : ∀ x ∈ mr :: tb :: S.ids, x < H.size := by
  intro x hx
  rcases List.mem_cons.1 hx with rfl | hx
  · exact lt_of_some h.ma.hm
  · rcases List.mem_cons.1 hx with rfl | hx
    · exact h.tbl
    · exact h.rd.ids_lt x hx
theorem PR.four {S : Stk} {mr tb : Nat} {m : MRf} {bd : List UInt8} {B : Nat} {ea ua : Addr} {s : St} {H : Heap} (h : PR S mr tb m bd B ea ua s H) : 4 ∉ S.ids := fun hm => by
  have := h.low 4 (by simp [hm])
  have := h.er.b16
  omega

theorem newPart_ok {S : Stk} {mr tb : Nat} {m : MRf} {bd : List UInt8} {B : Nat} {ea ua : Addr} {s : St} {H : Heap} {mode : Option (List UInt8)} {ls : List (List UInt8 × List UInt8)} {b : List UInt8} (h : PR S mr tb m bd B ea ua s H)
    (hr : s.rest S = linesText ls ++ 13 :: 10 :: (b ++ modeTail bd mode)) (hls : ∀ kv ∈ ls, LineOk kv) (hn : ls.length ≤ 110) (hnw : Nowhere b (nldOf bd)) (ht0 : (dashOf bd).isPrefixOf (b ++ modeTail bd mode) = false) (hfull : ∀ t, mode = some t → FullT t) (htot : b.length < 2 ^ 38) :
    CallsH Tryz.prog 96 #[.pointer (some ⟨mr, 0, none⟩), .bool true, .int .i64 10485760, .int .i64 10000] H fun x H' => ∃ pt hm N E s', x = .tuple #[.pointer (some ⟨pt, 0, none⟩), .nilIface] ∧ RB (rawEnv S mr tb m bd B ea ua mode pt hm) b 0 0 .go false s' H' ∧ Ents H' hm N E ∧ E.map Ent.hd = hdrOf ls ∧ Frm S.ids H H' ∧ H.size ≤ pt ∧ pt < H'.size ∧ (∀ x ∈ Ents.blks hm E, H.size ≤ x ∧ x ≠ pt) := by
  have hidl := h.rd.ids_lt
  have hmrl := lt_of_some h.ma.hm
  have h16 := h.er.b16
  have hbase := h.base
  apply s96
  simp only [c96, NewMap]
  have f1 : Frm [] H (H.push (.map #[] 0)) := Frm.push _ _ _
  have z1 : (H.push (.map #[] 0)).size = H.size + 1 := by simp
  generalize H.push (.map #[] 0) = H1 at *
  have e : fillV #[(0, 1), (1, 1), (2, 1), (3, 1), (4, 1), (5, 1), (6, 1), (7, 1), (8, 1)] #[(.map none), (.pointer none), (.string ⟨#[]⟩), (.map none), .nilIface, (.int .i64 0), (.int .i64 0), .nilIface, .nilIface] [(0, .map (some H.size)), (1, .pointer (some ⟨mr, 0, none⟩))] = some (ptCells ⟨.map (some H.size), .string ⟨#[]⟩, .map none, .nilIface⟩ mr 0 0 .nilIface .nilIface) := by
    rw [fillV_cons rfl rfl (by simp), fillV_cons rfl rfl (by simp), fillV_nil]; rfl
  simp only [e, Option.map_some, Get_some, New, Value.cells]
  have hp2 := push_same H1 (.cells (ptCells ⟨.map (some H.size), .string ⟨#[]⟩, .map none, .nilIface⟩ mr 0 0 .nilIface .nilIface) 148 (0, 0))
  have f2 : Frm [] H1 (H1.push (.cells (ptCells ⟨.map (some H.size), .string ⟨#[]⟩, .map none, .nilIface⟩ mr 0 0 .nilIface .nilIface) 148 (0, 0))) := Frm.push _ _ _
  have z2 : (H1.push (.cells (ptCells ⟨.map (some H.size), .string ⟨#[]⟩, .map none, .nilIface⟩ mr 0 0 .nilIface .nilIface) 148 (0, 0))).size = H1.size + 1 := by simp
  generalize H1.push (.cells (ptCells ⟨.map (some H.size), .string ⟨#[]⟩, .map none, .nilIface⟩ mr 0 0 .nilIface .nilIface) 148 (0, 0)) = H2 at *
  have f02 : Frm [] H H2 := f1.trans f2
  have h2 : PR S mr tb m bd B ea ua s H2 := h.ids (h.rd.frm f02 (by simp) (by simp) (by simp)) (f02.mono (by simp))
  have hpi : H1.size ∉ S.ids := fun hm => by have := hidl _ hm; omega
  have hpv : blk S.v ≠ some H1.size := fun hm => by have := h.vlt _ hm; omega
  refine (populate_ok hp2 h2.ma h2.rd h2.er.full h2.four h2.vlt h2.tbf hpi hpv (by omega) hr hls hn).mono ?_
  rintro x H3 ⟨hm, N, E, s3, rfl, hp3, hE3, hhd, h3, hr3, f3, hb3⟩
  have hpi2 : H1.size ∉ mr :: tb :: S.ids := fun hmm => by have := h.lt _ hmm; omega
  have hma3 : MRAt S mr tb m bd H3 := h2.ma.frm f3 (fun hmm => by
    rcases List.mem_cons.1 hmm with e | e
    · omega
    · exact h.ma.hmr e) (fun hmm => by
    rcases List.mem_cons.1 hmm with e | e
    · have := h.tbl; omega
    · exact h.ma.ht (by simp [e]))
  have her3 : Errs B ea ua H3 := h2.er.frm f3 (fun x hx => by
    rcases List.mem_cons.1 hx with rfl | hx
    · omega
    · exact h.low x (by simp [hx]))
  simp only [nilV2_neq_nil, Fld_ptr, add_mk, Nat.zero_add, List.getElem?_toArray, List.getElem?_cons_succ, List.getElem?_cons_zero, Get_some, Br_true, Br_false, nth_zero, nth_one, nth_two, extractV_tuple, fieldAddrV_ptr, nilV_ptr, load1V_ptr, pickV_bool, unV_not, lenV_slice, capV_slice]
  have e2 : fillV #[(0, 1)] #[(.pointer none)] [(0, .pointer (some ⟨H1.size, 0, none⟩))] = some #[.pointer (some ⟨H1.size, 0, none⟩)] := by
    rw [fillV_cons rfl rfl (by simp), fillV_nil]; rfl
  simp only [e2, Option.map_some, Fld_ptr, add_mk, Nat.zero_add, List.getElem?_toArray, List.getElem?_cons_succ, List.getElem?_cons_zero, Get_some, Br_true, Br_false, nth_zero, nth_one, nth_two, extractV_tuple, fieldAddrV_ptr, nilV_ptr, load1V_ptr, pickV_bool, unV_not, lenV_slice, capV_slice]
  refine Store_of hp3 (by simp [ptCells]) rfl fun H4 hp4 f4 z4 => ?_
  refine Join_direct ?_
  simp only [Fld_ptr, add_mk, Nat.zero_add, List.getElem?_toArray, List.getElem?_cons_succ, List.getElem?_cons_zero, Get_some, Br_true, Br_false, nth_zero, nth_one, nth_two, extractV_tuple, fieldAddrV_ptr, nilV_ptr, load1V_ptr, pickV_bool, unV_not, lenV_slice, capV_slice, Bool.not_true]
  have h4 : RdAt S s3 H4 := h3.frm f4 (fun x hx => by rw [List.mem_singleton]; rintro rfl; exact hpi hx) (fun x hx => by rw [List.mem_singleton]; rintro rfl; exact hpv hx) (by rw [List.mem_singleton]; omega)
  have hsz3 := f3.size
  refine ⟨H1.size, hm, N, E, s3, rfl, ?_, hE3.frm f4 (fun x hx => by have := hb3 x hx; rw [List.mem_singleton]; omega), hhd, ?_, by omega, by omega, fun x hx => by have := hb3 x hx; omega⟩
  · refine { rd := h4, ma := hma3.frm f4 (by rw [List.mem_singleton]; omega) (by rw [List.mem_singleton]; have := h.tbl; omega), hp := ?_, er := her3.frm f4 (by simp; omega), bdr := h.bdr, rest := ?_, nw := hnw, t0 := fun _ => ?_, nb := Nat.zero_le _, nk := Nat.zero_le _, full := fun t ht => ⟨hfull t ht, rfl, by simp, by simp⟩, cut := fun _ => ⟨by simp, by simp⟩, tot := by simpa using htot, low := fun x hx => ?_, hpt := hpi2, hpv := hpv, hE := h.hE }
    · simp only [ptCells, List.setIfInBounds_toArray, List.set_cons_succ, List.set_cons_zero] at hp4
      exact hp4
    · rw [show (rawEnv S mr tb m bd B ea ua mode H1.size hm).S = S from rfl, hr3]
      rfl
    · exact ht0
    · rcases List.mem_cons.1 hx with rfl | hx
      · show B ≤ H1.size; omega
      · exact h.low x hx
  · exact ((f02.mono (by simp)).up f3 (fun x hx => by
      rcases List.mem_cons.1 hx with rfl | hx
      · exact .inr (by omega)
      · exact .inl hx)).up f4 (fun x hx => by rw [List.mem_singleton] at hx; subst hx; exact .inr (by omega))
end Go.Cps
