/-
  A part of the proof: FnNextQuoted, apart from any world. What the reading of an argument tells of the heap: strings, slices, the structs of this program. The arguments of this program: fields, parts. What the laid variables tell: io.EOF, io.ErrUnexpectedEOF, bufio.ErrBufferFull. Arguments of a call read as what they stand for; the bulk of the variables.
  Conditions: each contract's own.
-/
import Derived.Test.YtfajmapajpfocaaGreatDoorRows
import Derived.ChangeArms
import Derived.ChangeShapes
import Derived.Stop.LaidTwo
import Derived.LaidLaws
import Derived.Test.YtfajmapajpfocaaGreatDoorCards
import Derived.WalkKit
import Derived.ProofKit
import Derived.OpenShut
import Derived.OpenVars
import Derived.Lay
import Derived.Stop.Joined
import Derived.Stop.LaidErr
import Derived.RowKit
import Derived.Carry
import Derived.Test.YtfajmapajpfocaaGreatDoorF7
import Derived.Test.YtfajmapajpfocaaGreatDoorF10
import Derived.Test.YtfajmapajpfocaaGreatDoorF13
import Derived.Test.YtfajmapajpfocaaGreatDoorF29
import Derived.Test.YtfajmapajpfocaaGreatDoorF32
import Derived.Test.YtfajmapajpfocaaGreatDoorF34
set_option linter.all false
namespace Go.Cps
open Go Go.Proofs
theorem fill02 {z1 z2 : Value} : Instr.fill (fun j => some (j * 2, 2)) ((Array.range (0 * 2)).map ((#[z1, z2] : Array Value)[· % 2]!)) [] = some #[] := by
  have e0 : (Array.range (0 * 2)) = #[] := by decide
  rw [e0]
  simp [Instr.fill]
theorem sum_set {α : Type} {f : α → Nat} : ∀ (l : List α) (k : Nat) (a : α), ((l.set k a).map f).sum ≤ (l.map f).sum + f a
  | [], _, _ => by simp
  | x :: l, 0, a => by simp; omega
  | x :: l, k + 1, a => by
    have := sum_set (f := f) l k a
    simp only [List.set_cons_succ, List.map_cons, List.sum_cons]
    omega
theorem sortHs_small {p : PartL} {n : Nat} (h1 : p.1.length < n) (h2 : ∀ q ∈ p.1, q.2.length < n) : (canonPart p).1.length < n ∧ ∀ r ∈ (canonPart p).1, r.2.length < n := by
  have hpm := sortHs_perm (p.1.map canonP)
  refine ⟨?_, fun r hr => ?_⟩
  · show (sortHs (p.1.map canonP)).length < _
    rw [hpm.length_eq, List.length_map]; exact h1
  · have hr' : r ∈ p.1.map canonP := hpm.mem_iff.1 hr
    obtain ⟨q', hq', rfl⟩ := List.mem_map.1 hr'
    exact h2 q' hq'
theorem quotedLaw_ok {B : Nat} {ea ua : Addr} {v sv : Value} {bd src : List UInt8} {l : List PartL} {kk : Int} {H : Heap} (hv : PartsV [] H v l) (hsv : BytV [] H sv src) (hE : Errs B ea ua H) (hB : B ≤ H.size) (hbl : bd.length < 2 ^ 38) (hs : (l.map bulkP).sum + src.length ≤ 2 ^ 20) :
    CallsH Tryz.prog 8 #[v, strVal bd, .int .i64 kk, sv] H fun x H' => x = .bool true ∧ Frm [] H H' := by
  obtain ⟨hn, hsm⟩ := bulk_small (n := 2 ^ 20) (l := l) (by omega)
  apply s8
  unfold c8
  refine ⟨fun vs H' => ∃ b : Bool, vs = [.bool b] ∧ Frm [] H H', ?_, ?_⟩
  · refine (fits3_ok hv (by omega) (fun p hp => ⟨by have := (hsm p hp).2.1; omega, fun q hq => by have := ((hsm p hp).2.2 q hq).2.1; omega⟩)).mono ?_
    rintro x H1 ⟨⟨r, rfl⟩, f1⟩
    cases r with
    | false =>
      simp only [Q0, Q1, Q2, Q3, Q4, Q5, Q6, Q7, Q8, Q9, Qa, Qb, Qc, Qd, Qe, Qf, Qg, Qh, Qi, Qj, Bool.not_false, if_true]
      exact ⟨_, rfl, f1⟩
    | true =>
      simp only [Q0, Q1, Q2, Q3, Q4, Q5, Q6, Q7, Q8, Q9, Qa, Qb, Qc, Qd, Qe, Qf, Qg, Qh, Qi, Qj, Qk, Ql, Qm, Qn, Qo, Qp, Qq, Qr, Qs, lenStr_of, Bool.not_true, Bool.false_eq_true, if_false]
      refine Br_intro (fun _ => ?_) (fun _ => ?_)
      · simp only [Q0, Q1, Q2, Q3, Q4, Q5, Q6, Q7, Q8, Q9, Qa, Qb, Qc, Qd, Qe, Qf, Qg, Qh, Qi, Qj, if_true]
        exact ⟨_, rfl, f1⟩
      · simp only [hsv.1.len, Q0, Q1, Q2, Q3, Q4, Q5, Q6, Q7, Q8, Q9, Qa, Qb, Qc, Qd, Qe, Qf, Qg, Qh, Qi, Qj, Qk, Ql, Qm, Qn, Qo, Qp, Qq, Qr, Qs, Bool.false_eq_true, if_false]
        exact ⟨_, rfl, f1⟩
  rintro _ H1 ⟨b, rfl, f1⟩
  simp only [Q9]
  refine Br_intro (fun _ => ⟨trivial, f1⟩) (fun _ => ?_)
  refine ⟨fun vs H' => ∃ b : Bool, vs = [.bool b] ∧ H' = H1, ?_, ?_⟩
  · simp only [lenStr_of, Q0, Q1, Q2, Q3, Q4, Q5, Q6, Q7, Q8, Q9, Qa, Qb, Qc, Qd, Qe, Qf, Qg, Qh, Qi, Qj, Qk, Ql, Qm, Qn, Qo, Qp, Qq, Qr, Qs]
    refine Br_intro (fun _ => ?_) (fun _ => ?_)
    · simp only [Q0, Q1, Q2, Q3, Q4, Q5, Q6, Q7, Q8, Q9, Qa, Qb, Qc, Qd, Qe, Qf, Qg, Qh, Qi, Qj, if_true]
      exact ⟨_, rfl, trivial⟩
    · simp only [hsv.1.len, Q0, Q1, Q2, Q3, Q4, Q5, Q6, Q7, Q8, Q9, Qa, Qb, Qc, Qd, Qe, Qf, Qg, Qh, Qi, Qj, Qk, Ql, Qm, Qn, Qo, Qp, Qq, Qr, Qs, Bool.false_eq_true, if_false]
      exact ⟨_, rfl, trivial⟩
  rintro _ H2 ⟨b, rfl, rfl⟩
  simp only [Q9]
  refine Br_intro (fun _ => ⟨trivial, f1⟩) (fun _ => ?_)
  have hsv1 := hsv.frm f1 (by simp)
  refine (quoted_ok hsv1.1 (fun h0 x hx => (hsv1.2 h0 x hx).2) (by omega)).mono ?_
  rintro x H3 ⟨y, D, okq, rfl, f3, hq⟩
  have f13 := f1.trans f3
  refine Get_of (v := y) rfl ?_
  refine Get_of (v := .bool okq) rfl ?_
  refine ⟨fun vs H' => ∃ b : Bool, vs = [.bool b] ∧ (b = false → okq = true ∧ (∃ k : Nat, kk = k ∧ k < l.length) ∧ (∀ p ∈ l, GoodPart bd p) ∧ BdOk bd ∧ (∀ p ∈ l, hasL encKey p.1 = false) ∧ FreeP src bd) ∧ Frm [] H3 H', ?_, ?_⟩
  · cases okq with
    | false =>
      simp only [Q0, Q1, Q2, Q3, Q4, Q5, Q6, Q7, Q8, Q9, Qa, Qb, Qc, Qd, Qe, Qf, Qg, Qh, Qi, Qj, Bool.not_false, if_true]
      exact ⟨true, rfl, by simp, Frm.refl _ _⟩
    | true =>
      simp only [Q0, Q1, Q2, Q3, Q4, Q5, Q6, Q7, Q8, Q9, Qa, Qb, Qc, Qd, Qe, Qf, Qg, Qh, Qi, Qj, Qk, Ql, Qm, Qn, Qo, Qp, Qq, Qr, Qs, Bool.not_true, Bool.false_eq_true, if_false]
      refine Br_intro (fun h1 => ?_) (fun h1 => ?_)
      · simp only [Q0, Q1, Q2, Q3, Q4, Q5, Q6, Q7, Q8, Q9, Qa, Qb, Qc, Qd, Qe, Qf, Qg, Qh, Qi, Qj, if_true]
        exact ⟨true, rfl, by simp, Frm.refl _ _⟩
      · simp only [hv.len, Q0, Q1, Q2, Q3, Q4, Q5, Q6, Q7, Q8, Q9, Qa, Qb, Qc, Qd, Qe, Qf, Qg, Qh, Qi, Qj, Qk, Ql, Qm, Qn, Qo, Qp, Qq, Qr, Qs, Bool.false_eq_true, if_false]
        refine Br_intro (fun h2 => ?_) (fun h2 => ?_)
        · simp only [Q0, Q1, Q2, Q3, Q4, Q5, Q6, Q7, Q8, Q9, Qa, Qb, Qc, Qd, Qe, Qf, Qg, Qh, Qi, Qj, if_true]
          exact ⟨true, rfl, by simp, Frm.refl _ _⟩
        · have hk : ∃ k : Nat, kk = k ∧ k < l.length := by
            simp only [decide_eq_false_iff_not] at h1 h2
            exact ⟨kk.toNat, by omega, by omega⟩
          refine (good_ok (hv.frm Qw f13 (by simp)) (by omega) (by omega) (fun p hp => ?_)).mono ?_
          · obtain ⟨a1, a2, a3⟩ := hsm p hp
            exact ⟨by omega, by omega, fun q hq => by
              obtain ⟨b1, b2, b3⟩ := a3 q hq
              exact ⟨by omega, by omega, fun s hs => by have := b3 s hs; omega⟩⟩
          rintro x H4 ⟨r, rfl, hr, f4⟩
          cases r with
          | false =>
            simp only [Q0, Q1, Q2, Q3, Q4, Q5, Q6, Q7, Q8, Q9, Qa, Qb, Qc, Qd, Qe, Qf, Qg, Qh, Qi, Qj, Bool.not_false, Bool.false_eq_true, if_false, if_true]
            exact ⟨true, rfl, by simp, f4⟩
          | true =>
            simp only [Q0, Q1, Q2, Q3, Q4, Q5, Q6, Q7, Q8, Q9, Qa, Qb, Qc, Qd, Qe, Qf, Qg, Qh, Qi, Qj, Bool.not_true, Bool.false_eq_true, if_false]
            have f14 := f13.trans f4
            refine (without_ok (hv.frm Qw f14 (by simp)) (by omega) (fun p hp => ⟨by have := (hsm p hp).2.1; omega, fun q hq => by have := ((hsm p hp).2.2 q hq).1; omega⟩)).mono ?_
            rintro x H5 ⟨r2, rfl, hr2, f5⟩
            cases r2 with
            | false =>
              simp only [Q0, Q1, Q2, Q3, Q4, Q5, Q6, Q7, Q8, Q9, Qa, Qb, Qc, Qd, Qe, Qf, Qg, Qh, Qi, Qj, Bool.not_false, Bool.false_eq_true, if_false, if_true]
              exact ⟨true, rfl, by simp, f4.trans f5⟩
            | true =>
              simp only [Q0, Q1, Q2, Q3, Q4, Q5, Q6, Q7, Q8, Q9, Qa, Qb, Qc, Qd, Qe, Qf, Qg, Qh, Qi, Qj, Bool.not_true, Bool.false_eq_true, if_false]
              have hsv5 := hsv.frm (f14.trans f5) (by simp)
              refine (free_ok hsv5.1 (fun h0 x hx => (hsv5.2 h0 x hx).2) (by omega) (by omega)).mono ?_
              rintro x H6 ⟨r3, rfl, hr3, f6⟩
              simp only [Q0, Q1, Q2, Q3, Q4, Q5, Q6, Q7, Q8, Q9, Qa, Qb, Qc, Qd, Qe, Qf, Qg, Qh, Qi, Qj, Bool.false_eq_true, if_false]
              exact ⟨_, rfl, fun h => ⟨trivial, hk, (hr rfl).1, (hr rfl).2, hr2 rfl, hr3.1 (by simpa using h)⟩, (f4.trans f5).trans f6⟩
  rintro _ H4 ⟨b, rfl, hb, f4⟩
  have f14 := f13.trans f4
  simp only [Q9]
  refine Br_intro (fun _ => ⟨trivial, f14⟩) (fun hb0 => ?_)
  obtain ⟨rfl, ⟨k, rfl, hk⟩, hg, hok, hw, hfree⟩ := hb hb0
  obtain ⟨hqt, kq, hownq, hkq⟩ := hq rfl
  have hlen := hok.len
  have hpos := hok.pos
  have hne : l ≠ [] := by rintro rfl; simp at hk
  have hgd : l.getD k ([], []) = l[k] := by rw [List.getD_eq_getElem?_getD, List.getElem?_eq_getElem hk]; rfl
  -- the first copy, with the part in the encoding
  rw [fill02, Q6]
  refine newSl_of fun H5 hb5 f5 z5 => ?_
  have f15 := f14.trans f5
  have hv5 := hv.frm Qw f15 (by simp)
  have hsv5 := hsv.frm f15 (by simp)
  refine append_parts hv5 hne (by omega) fun v1 H6 hown1 f6 z6 => ?_
  have hv6 : PartsV [H5.size] H6 v l := (hv5.new Qw (Nat.le_refl _)).frm Qw f6 (by simp)
  have hsv6 : BytV [H5.size] H6 sv src := (hsv5.new (Nat.le_refl _)).frm f6 (by simp)
  obtain ⟨a, vs, ha, _, _, hR, hc⟩ := hv6.elem (j := k) hk
  obtain ⟨y0, z0, rfl, hy0, hz0⟩ := part_shape hR
  refine Get_of (ha .i64) ?_
  refine Get_of (Qd 0 a) ?_
  refine Get_of (show load1V _ _ = some y0 by rw [Qf, hc 0 (by omega)]; rfl) ?_
  have hkb := (hsm l[k] (List.getElem_mem hk))
  refine (with_ok (key := encKey) (value := qpL) hy0 (by have := hkb.2.1; omega) (fun x hx => by rw [List.mem_singleton] at hx; omega)).mono ?_
  rintro x84 H7 ⟨h84, f7⟩
  have hsv7 := hsv6.frm f7 (by simp)
  rw [agg2 h84.isOne hsv7.isOne trivial, Option.map_some, Q6]
  have hown7 := hown1.frm Qw f7 (by simp)
  refine setPart hown7 hk (p := (withF encKey qpL false l[k].1, src)) ⟨x84, sv, rfl, h84, hsv7⟩ fun H8 hown8 f8 z8 => ?_
  have htold : (withF encKey qpL false l[k].1, src) = toldP (l.getD k ([], [])) src := by rw [hgd]; rfl
  rw [htold] at hown8
  obtain ⟨told, htd⟩ : ∃ told, l.set k (toldP (l.getD k ([], [])) src) = told := ⟨_, rfl⟩
  rw [htd] at hown8
  have f48 : Frm [] H4 H8 := ((f5.trans f6).trans f7).up f8 (fun x hx => by rw [List.mem_singleton] at hx; subst hx; exact .inr (by omega))
  have f18 := f14.trans f48
  have hv8 : PartsV [] H8 v1 told := hown8.slV Qw
  have htl : told.length = l.length := by rw [← htd, List.length_set]
  have htb : (told.map bulkP).sum ≤ 2 ^ 22 := by
    have h1 := sum_set (f := bulkP) l k (toldP (l.getD k ([], [])) src)
    rw [htd] at h1
    have h2 : bulkP (toldP (l.getD k ([], [])) src) = (bulkH (encKey, [qpL]) + (l[k].1.map bulkH).sum) + src.length + 1 := by
      rw [hgd]
      show ((withF encKey qpL false l[k].1).map bulkH).sum + src.length + 1 = _
      rw [withF_sum]
    have h3 : bulkH (encKey, [qpL]) ≤ 100 := by decide
    have h4 := le_sumOf (f := bulkP) (List.getElem_mem hk)
    have h5 : bulkP l[k] = (l[k].1.map bulkH).sum + l[k].2.length + 1 := rfl
    omega
  obtain ⟨htn, htsm⟩ := bulk_small htb
  refine (good_ok hv8 (by omega) (by omega) (fun p hp => ?_)).mono ?_
  · obtain ⟨a1, a2, a3⟩ := htsm p hp
    exact ⟨by omega, by omega, fun q hq => by
      obtain ⟨b1, b2, b3⟩ := a3 q hq
      exact ⟨by omega, by omega, fun s hs => by have := b3 s hs; omega⟩⟩
  rintro x H9 ⟨r, rfl, hr, f9⟩
  have f19 := f18.trans f9
  refine Get_of (Qh r) ?_
  refine Br_intro (fun _ => ⟨trivial, f19⟩) (fun hr0 => ?_)
  obtain ⟨hgt, _⟩ := hr (by simpa using hr0)
  have hgk : GoodPart bd (toldP (l.getD k ([], [])) src) := hgt _ (by rw [← htd]; exact List.mem_set hk _)
  -- the second copy, with what the part stands for
  rw [Q6]
  refine newSl_of fun H10 hb10 f10 z10 => ?_
  have f1A := f19.trans f10
  have hvA := hv.frm Qw f1A (by simp)
  refine append_parts hvA hne (by omega) fun v2 H11 hown2 f11 z11 => ?_
  have hv11 : PartsV [H10.size] H11 v l := (hvA.new Qw (Nat.le_refl _)).frm Qw f11 (by simp)
  obtain ⟨a', vs', ha', _, _, hR', hc'⟩ := hv11.elem (j := k) hk
  obtain ⟨y1, z1, rfl, hy1, hz1⟩ := part_shape hR'
  refine Get_of (ha' .i64) ?_
  refine Get_of (Qd 0 a') ?_
  refine Get_of (show load1V _ _ = some y1 by rw [Qf, hc' 0 (by omega)]; rfl) ?_
  have f3A : Frm [] H3 H10 := ((f4.trans f48).trans f9).trans f10
  have hyq : BytV [H10.size] H11 y D := (((bytV_self hownq.bytes).frm f3A (by simp)).new (Nat.le_refl _)).frm f11 (by simp)
  rw [agg2 hy1.isOne hyq.isOne trivial, Option.map_some, Q6]
  refine setPart hown2 hk (p := (l[k].1, D)) ⟨y1, y, rfl, hy1, hyq⟩ fun H12 hown12 f12 z12 => ?_
  have f9C : Frm [] H9 H12 := (f10.trans f11).up f12 (fun x hx => by rw [List.mem_singleton] at hx; subst hx; exact .inr (by omega))
  have f1C := f19.trans f9C
  obtain ⟨hidden, hhd⟩ : ∃ hidden, l.set k ((l.getD k ([], [])).1, D) = hidden := ⟨_, rfl⟩
  rw [hgd] at hhd
  rw [hhd] at hown12
  have hv12 : PartsV [] H12 v2 hidden := hown12.slV Qw
  have hv1C : PartsV [] H12 v1 told := hv8.frm Qw (f9.trans f9C) (by simp)
  have hwl : (wholeT bd none (told.map partInL)).length < 2 ^ 36 := by
    have := whole_len' hgt
    have h2 : told.length * (10 + bd.length) ≤ 2 ^ 22 * 80 := Nat.mul_le_mul htn (by omega)
    omega
  refine (write_ok hv1C hok hwl (by omega) (fun p hp => (hgt p hp).head.asc')).mono ?_
  rintro x H13 ⟨w, rfl, hx, f13'⟩
  have f1D := f1C.trans f13'
  refine Get_of (v := w) rfl ?_
  refine Get_of (v := .bool true) rfl ?_
  have hgb : GoodBd bd := ⟨by intro h0; rw [h0] at hpos; simp at hpos, bd_no_nl hok, by omega⟩
  have hbr : BdR bd := ⟨bd_no_cr hok, by omega⟩
  have hfst : (quotedIn l k src D).map (·.1) = told.map partInL := by rw [quotedIn_fst, htd]
  have hql : (quotedIn l k src D).length = l.length := by simp [quotedIn]
  refine (next27_ok (ps := quotedIn l k src D) (by rw [hfst]; exact hx) (hE.frm f1D (by simp)) (Nat.le_trans hB f1D.size) hgb hbr (by rw [hfst]; omega) (quotedIn_good hg hw hk hgk hqt (fun p hp => by have := (hsm p hp).1; omega) (by omega)) (by omega)).mono ?_
  rintro x H14 ⟨u, rfl, hu, f14'⟩
  rw [quotedIn_res hg hw hk hgk, hgd, hhd] at hu
  have f1E := f1D.trans f14'
  refine Get_of (v := u) rfl ?_
  refine Get_of (v := .int .i64 1) rfl ?_
  refine (parts_ok (hx.frm f14' (by simp)) (hE.frm f1E (by simp)) (Nat.le_trans hB f1E.size) hgb hbr (by omega) ?_ (by simp) (by simp; omega)).mono ?_
  · intro q hq
    obtain ⟨p, hp, rfl⟩ := List.mem_map.1 hq
    exact (hgt p hp).inn (by have := (htsm p hp).1; omega)
  rintro x H15 ⟨u2, rs, rfl, hu2, f15', hrs⟩
  simp only at hrs
  subst hrs
  have hmap : (told.map partInL).map resOf = told.map canonPart := by
    rw [List.map_map]
    exact List.map_congr_left fun p hp => (hgt p hp).res
  rw [hmap] at hu2
  have f1F := f1E.trans f15'
  have ho : ((1 : Int) == 1) = true := by decide
  have hhl : hidden.length = l.length := by rw [← hhd, List.length_set]
  have hhm : ∀ p ∈ hidden, ∃ r ∈ l, p.1 = r.1 := fun p hp => by
    rw [← hhd] at hp
    rcases List.mem_or_eq_of_mem_set hp with h | rfl
    · exact ⟨p, h, rfl⟩
    · exact ⟨l[k], List.getElem_mem hk, rfl⟩
  refine Get_of (v := u2) rfl ?_
  refine Get_of (v := .int .i64 1) rfl ?_
  refine ⟨fun vs H' => vs = [.bool true] ∧ Frm [] H H', ?_, ?_⟩
  · simp only [Q0, Q1, Q2, Q3, Q4, Q5, Q6, Q7, Q8, Q9, Qa, Qb, Qc, Qd, Qe, Qf, Qg, Qh, Qi, Qj, Qk, Ql, Qm, Qn, Qo, Qp, Qq, Qr, Qs, if_true, ho, Option.isSome_none, Bool.false_eq_true, if_false]
    refine (canonParts_ok (hv12.frm Qw ((f13'.trans f14').trans f15') (by simp)) (by omega) (fun p hp => ?_) (fun p hp => ?_)).mono ?_
    · obtain ⟨r, hr, e⟩ := hhm p hp
      rw [e]
      exact ⟨by have := (hsm r hr).2.1; omega, fun q hq => by have := ((hsm r hr).2.2 q hq).1; omega⟩
    · obtain ⟨r, hr, e⟩ := hhm p hp
      rw [e]
      exact (hg r hr).head.canon
    rintro x H16 ⟨hx16, f16⟩
    have f1G := f1F.trans f16
    refine (same_ok (hu.frm Qw (f15'.trans f16) (by simp)) hx16 (by simp; omega) ?_).mono ?_
    · intro q hq
      obtain ⟨p, hp, rfl⟩ := List.mem_map.1 hq
      obtain ⟨r, hr, e⟩ := hhm p hp
      exact sortHs_small (by rw [e]; have := (hsm r hr).2.1; omega) (fun q hq => by rw [e] at hq; have := ((hsm r hr).2.2 q hq).2.1; omega)
    rintro x H17 ⟨rfl, f17⟩
    have f1H := f1G.trans f17
    simp only [decide_true, Q0, Q1, Q2, Q3, Q4, Q5, Q6, Q7, Q8, Q9, Qa, Qb, Qc, Qd, Qe, Qf, Qg, Qh, Qi, Qj]
    refine (canonParts_ok (hv1C.frm Qw ((((f13'.trans f14').trans f15').trans f16).trans f17) (by simp)) (by omega) (fun p hp => ⟨by have := (htsm p hp).2.1; omega, fun q hq => by have := ((htsm p hp).2.2 q hq).1; omega⟩) (fun p hp => (hgt p hp).head.canon)).mono ?_
    rintro x H18 ⟨hx18, f18'⟩
    have f1I := f1H.trans f18'
    refine (same_ok (hu2.frm Qw ((f16.trans f17).trans f18') (by simp)) hx18 (by simp; omega) ?_).mono ?_
    · intro q hq
      obtain ⟨p, hp, rfl⟩ := List.mem_map.1 hq
      exact sortHs_small (by have := (htsm p hp).2.1; omega) (fun q hq => by have := ((htsm p hp).2.2 q hq).2.1; omega)
    rintro x H19 ⟨rfl, f19'⟩
    simp only [decide_true, Q0, Q1, Q2, Q3, Q4, Q5, Q6, Q7, Q8, Q9, Qa, Qb, Qc, Qd, Qe, Qf, Qg, Qh, Qi, Qj, if_true]
    exact ⟨trivial, f1I.trans f19'⟩
  · rintro _ H' ⟨rfl, hfr⟩
    exact ⟨rfl, hfr⟩
end Go.Cps
namespace Go.Proofs.YtfajmapajpfocaaGreatDoor
open Go Go.Cps
theorem bulk_pos {H : Type} (d : DataW H) : 1 ≤ Rows.uptoBulk d := by
  cases d with
  | lit l => cases l <;> simp [Rows.uptoBulk]
  | nil => simp [Rows.uptoBulk]
  | ptr d => simp [Rows.uptoBulk]
  | slice elems spare => simp [Rows.uptoBulk]
  | agg parts => simp [Rows.uptoBulk]
  | iface t d => simp [Rows.uptoBulk]
  | map entries => simp [Rows.uptoBulk]
  | held h => simp [Rows.uptoBulk]
section
variable {H : Type} {enc : TypeId × Value → H} {P : Program} {w : World} {base : Nat} {held : Bool}
theorem cells_some {a : Addr} {n : Nat} {cs : List Value} (h : w.cells? base a n = some cs) : cs.length = n ∧ ∀ i, i < n → cellH w.heap (a.add i) = cs[i]? := by
  unfold World.cells? at h
  split at h
  · refine ⟨by simpa using mapM_some_length h, fun i hi => ?_⟩
    have := mapM_some_get h i i (by simp [hi])
    rw [← this]
    rfl
  · cases h
theorem cell_some {a : Addr} {H : Heap} {v : Value} (h : cellH H a = some v) : a.spot = none ∧ a.block < H.size := by
  unfold cellH at h
  split at h
  · rename_i c t f hb
    refine ⟨?_, lt_of_some hb⟩
    cases hs : a.spot with
    | none => rfl
    | some k => simp [hs] at h
  · cases h
theorem open_sl {α : Type} {k : Nat} {R : List Nat → Heap → α → List Value → Prop} {size : α → Nat} {t e : TypeId} {fuel : Nat} {cs : List Value} {x : DataW H × List MemPlace} (ht : P.underlying t = some (.slice e)) (hw : P.cellsOf e = k) (hk : 0 < k)
    (hel : ∀ fuel cs x, cs.length = k → DataW.trod enc P w base (fun _ => true) held fuel e cs = some x → ∃ a : α, R [] w.heap a cs ∧ size a ≤ Rows.uptoBulk x.1)
    (h : DataW.trod enc P w base (fun _ => true) held fuel t cs = some x) :
    ∃ v l, cs = [v] ∧ SlV k R [] w.heap v l ∧ (l.map size).sum + 1 ≤ Rows.uptoBulk x.1 ∧ l.length + 1 ≤ Rows.uptoBulk x.1 := by
  rcases DataW.trod_slice ht h with ⟨rfl, rfl⟩ | ⟨a, len, cap, elems, rest, n, rfl, rfl, rfl, hb, hlc, hcm, hlen, hels, hrest, _⟩
  · exact ⟨_, [], rfl, .inr ⟨_, rfl, rfl⟩, by simp [Rows.uptoBulk], by simp [Rows.uptoBulk]⟩
  obtain ⟨hrl, hrs⟩ := hrest rfl
  rw [hw] at hels hrs
  by_cases hc0 : cap = 0
  · have h0 : len = 0 := by omega
    subst hc0 h0
    have he0 : elems = [] := List.eq_nil_of_length_eq_zero hlen
    exact ⟨_, [], rfl, .inr ⟨some a, rfl, rfl⟩, by simp [Rows.uptoBulk], by simp [Rows.uptoBulk]⟩
  have hval : ∃ v, cellH w.heap (a.add 0) = some v := by
    by_cases h0 : len = 0
    · have h1 := hrs 0 (by omega)
      rw [List.getElem?_eq_getElem (by omega)] at h1
      obtain ⟨vs, hc, _⟩ := Option.bind_eq_some_iff.1 h1
      obtain ⟨hvl, hvc⟩ := cells_some hc
      have := hvc 0 hk
      rw [List.getElem?_eq_getElem (by omega)] at this
      exact ⟨_, by simpa [h0, Addr.add] using this⟩
    · have h1 := hels 0 (by omega)
      rw [List.getElem?_eq_getElem (by omega)] at h1
      obtain ⟨vs, hc, _⟩ := Option.bind_eq_some_iff.1 h1
      obtain ⟨hvl, hvc⟩ := cells_some hc
      have := hvc 0 hk
      rw [List.getElem?_eq_getElem (by omega)] at this
      exact ⟨_, by simpa [Addr.add] using this⟩
  obtain ⟨v0, hv0⟩ := hval
  obtain ⟨hsp, hlt⟩ := cell_some hv0
  rw [add_zero] at hsp hlt
  obtain ⟨b, o, sp⟩ := a
  simp only at hsp hlt
  subst hsp
  have hex : ∀ m, m ≤ len → ∃ l : List α, l.length = m ∧ (l.map size).sum ≤ Rows.uptoBulkAll ((elems.map (·.1)).take m) ∧ ∀ j (hj : j < l.length), ∃ vs : List Value, vs.length = k ∧ R [] w.heap l[j] vs ∧ ∀ i, i < k → cellH w.heap ⟨b, o + (j * k + i), none⟩ = vs[i]? := by
    intro m
    induction m with
    | zero => exact fun _ => ⟨[], rfl, by simp [Rows.uptoBulkAll], fun j hj => absurd hj (by simp)⟩
    | succ m ih =>
      intro hm
      obtain ⟨l, hl, hs, hg⟩ := ih (by omega)
      have hel1 := hels m (by omega)
      rw [List.getElem?_eq_getElem (by omega)] at hel1
      obtain ⟨vs, hc, hd⟩ := Option.bind_eq_some_iff.1 hel1
      obtain ⟨hvl, hvc⟩ := cells_some hc
      obtain ⟨y, hR, hsz⟩ := hel _ _ _ hvl hd
      refine ⟨l ++ [y], by simp [hl], ?_, fun j hj => ?_⟩
      · rw [List.take_succ_eq_append_getElem (by simp; omega), List.map_append, List.sum_append]
        have happ : ∀ (p q : List (DataW H)), Rows.uptoBulkAll (p ++ q) = Rows.uptoBulkAll p + Rows.uptoBulkAll q := by
          intro p q
          induction p with
          | nil => simp [Rows.uptoBulkAll]
          | cons c p ih => simp only [List.cons_append, Rows.uptoBulkAll, ih]; omega
        rw [happ]
        simp only [List.map_cons, List.map_nil, List.sum_cons, List.sum_nil, List.getElem_map, Rows.uptoBulkAll]
        omega
      · by_cases hjm : j < l.length
        · rw [List.getElem_append_left hjm]
          exact hg j hjm
        · have hje : j = l.length := by simp at hj; omega
          subst hje
          refine ⟨vs, hvl, by simpa using hR, fun i hi => ?_⟩
          rw [hl, ← hvc i hi]
          rw [Q1, Q1, Nat.add_assoc]
  obtain ⟨l, hl, hs, hg⟩ := hex len (Nat.le_refl _)
  rw [List.take_of_length_le (by simp; omega)] at hs
  have hll : ∀ (p : List (DataW H)), p.length ≤ Rows.uptoBulkAll p := by
    intro p
    induction p with
    | nil => simp [Rows.uptoBulkAll]
    | cons c p ih => have := bulk_pos c; simp only [List.length_cons, Rows.uptoBulkAll]; omega
  have hl2 := hll (elems.map (·.1))
  rw [List.length_map] at hl2
  refine ⟨_, l, rfl, ?_, by simp only [Rows.uptoBulk]; omega, by simp only [Rows.uptoBulk]; omega⟩
  refine .inl ⟨b, o, cap, by rw [hl], by omega, by simp, hlt, fun j hj => ?_⟩
  obtain ⟨vs, h1, h2, h3⟩ := hg j hj
  exact ⟨vs, h1, h2, h3⟩
def ByteR (_ : List Nat) (_ : Heap) (b : UInt8) (vs : List Value) : Prop := vs = [byteV b]
theorem bytV_of {D : List Nat} {H : Heap} {v : Value} {l : List UInt8} (h : SlV 1 ByteR D H v l) : BytV D H v l := by
  rcases h with ⟨b, o, c, rfl, h1, h2, h3, h4⟩ | ⟨a, rfl, rfl⟩
  · refine ⟨.inl ⟨b, o, c, rfl, h1, fun j hj => ?_⟩, fun _ b' hb => ?_⟩
    · obtain ⟨vs, _, g2, g3⟩ := h4 j hj
      have := g3 0 (by omega)
      rw [show vs = [byteV l[j]] from g2] at this
      rw [List.getElem?_eq_getElem hj]
      simpa using this
    · simp only [blk, Option.some.injEq] at hb
      subst hb
      exact ⟨h2, h3⟩
  · exact ⟨.inr ⟨a, rfl, rfl⟩, fun h => absurd rfl h⟩
theorem open_bytes {t e : TypeId} {fuel : Nat} {cs : List Value} {x : DataW H × List MemPlace} (ht : P.underlying t = some (.slice e)) (he : P.underlying e = some (.int .u8)) (hw : P.cellsOf e = 1)
    (h : DataW.trod enc P w base (fun _ => true) held fuel t cs = some x) : ∃ v l, cs = [v] ∧ BytV [] w.heap v l ∧ l.length + 1 ≤ Rows.uptoBulk x.1 := by
  obtain ⟨v, l, h1, h2, _, h4⟩ := open_sl (R := ByteR) (size := fun _ => 1) ht hw (by omega) (fun fuel cs x hcs hx => by
    obtain ⟨n, rfl, rfl, hn⟩ := DataW.trod_int he hx
    refine ⟨UInt8.ofNat n.toNat, ?_, bulk_pos _⟩
    have hb : 0 ≤ n ∧ n ≤ 255 := by simpa [Lit.wf, IntKind.min, IntKind.max, IntKind.signed, IntKind.bits] using hn
    show [Value.int .u8 n] = [byteV _]
    have : (UInt8.ofNat n.toNat).toNat = n.toNat := by
      rw [UInt8.toNat_ofNat']
      omega
    simp only [byteV, this]
    congr 2
    omega) h
  exact ⟨v, l, h1, bytV_of h2, h4⟩
theorem open_str {t : TypeId} {fuel : Nat} {cs : List Value} {x : DataW H × List MemPlace} (ht : P.underlying t = some .string)
    (h : DataW.trod enc P w base (fun _ => true) held fuel t cs = some x) : ∃ l : List UInt8, cs = [Cps.strVal l] ∧ l.length + 1 ≤ Rows.uptoBulk x.1 := by
  obtain ⟨s, rfl, rfl, _⟩ := DataW.trod_string ht h
  exact ⟨s.data.toList, by cases s; simp [Cps.strVal], by simp [Rows.uptoBulk]⟩
theorem open_strs {t e : TypeId} {fuel : Nat} {cs : List Value} {x : DataW H × List MemPlace} (ht : P.underlying t = some (.slice e)) (he : P.underlying e = some .string) (hw : P.cellsOf e = 1)
    (h : DataW.trod enc P w base (fun _ => true) held fuel t cs = some x) : ∃ v l, cs = [v] ∧ StrsV [] w.heap v l ∧ (l.map fun s => s.length + 1).sum + 1 ≤ Rows.uptoBulk x.1 := by
  obtain ⟨v, l, h1, h2, h3, _⟩ := open_sl (R := StrR) (size := fun s : List UInt8 => s.length + 1) ht hw (by omega) (fun fuel cs x hcs hx => by
    obtain ⟨s, rfl, hs⟩ := open_str he hx
    exact ⟨s, rfl, hs⟩) h
  exact ⟨v, l, h1, h2, h3⟩
end
end Go.Proofs.YtfajmapajpfocaaGreatDoor
namespace Go.Proofs.YtfajmapajpfocaaGreatDoor
open Go Go.Cps
theorem cells5 : Tryz.prog.cellsOf 5 = 1 := by kernel_rfl
theorem cells9' : Tryz.prog.cellsOf 9 = 1 := by kernel_rfl
theorem cells23 : Tryz.prog.cellsOf 23 = 1 := by kernel_rfl
theorem cells37 : Tryz.prog.cellsOf 37 = 1 := by kernel_rfl
theorem cells88 : Tryz.prog.cellsOf 88 = 1 := by kernel_rfl
theorem cells90 : Tryz.prog.cellsOf 90 = 2 := by kernel_rfl
theorem cells39 : Tryz.prog.cellsOf 39 = 2 := by kernel_rfl
theorem len_two {α : Type} {l : List α} (h : l.length = 2) : ∃ a b, l = [a, b] := by
  match l, h with
  | [a, b], _ => exact ⟨a, b, rfl⟩
section
variable {H : Type} {enc : TypeId × Value → H} {w : World} {base : Nat} {held : Bool} {fuel : Nat} {cs : List Value} {x : DataW H × List MemPlace}
theorem open_body (h : DataW.trod enc Tryz.prog w base (fun _ => true) held fuel 23 cs = some x) : ∃ v l, cs = [v] ∧ BytV [] w.heap v l ∧ l.length + 1 ≤ Rows.uptoBulk x.1 := open_bytes Tryz.underlying23 Tryz.underlying5 cells5 h
theorem open_text (h : DataW.trod enc Tryz.prog w base (fun _ => true) held fuel 9 cs = some x) : ∃ l : List UInt8, cs = [Cps.strVal l] ∧ l.length + 1 ≤ Rows.uptoBulk x.1 := open_str und9 h
def hdrSize (p : Hdr) : Nat := p.1.length + (p.2.map fun s => s.length + 1).sum + 1
theorem open_hdr (hl : cs.length = 2) (h : DataW.trod enc Tryz.prog w base (fun _ => true) held fuel 90 cs = some x) : ∃ p : Hdr, HeadR [] w.heap p cs ∧ hdrSize p ≤ Rows.uptoBulk x.1 := by
  obtain ⟨xs, n, rfl, rfl, _, hxl, hf⟩ := DataW.trod_struct Tryz.underlying90 h
  obtain ⟨y0, y1, rfl⟩ := len_two hxl
  obtain ⟨c0, c1, rfl⟩ := len_two hl
  · · skip
      have h0 : DataW.trod enc Tryz.prog w base (fun _ => true) held n 9 (([c0, c1].drop 0).take (Tryz.prog.cellsOf 9)) = some y0 := hf 0 _ rfl
      rw [cells9'] at h0
      replace h0 : DataW.trod enc Tryz.prog w base (fun _ => true) held n 9 [c0] = some y0 := h0
      have h1 : DataW.trod enc Tryz.prog w base (fun _ => true) held n 88 (([c0, c1].drop 1).take (Tryz.prog.cellsOf 88)) = some y1 := hf 1 _ rfl
      rw [cells88] at h1
      replace h1 : DataW.trod enc Tryz.prog w base (fun _ => true) held n 88 [c1] = some y1 := h1
      obtain ⟨a, e0, s0⟩ := open_text h0
      obtain ⟨v, c, e1, hv, s1⟩ := open_strs Tryz.underlying88 und9 cells9' h1
      obtain rfl := List.singleton_inj.1 e0
      obtain rfl := List.singleton_inj.1 e1
      refine ⟨(a, c), ⟨_, rfl, hv⟩, ?_⟩
      simp only [hdrSize, List.map_cons, List.map_nil, Rows.uptoBulk, Rows.uptoBulkAll]
      omega
theorem open_heads (h : DataW.trod enc Tryz.prog w base (fun _ => true) held fuel 37 cs = some x) : ∃ v l, cs = [v] ∧ HeadsV [] w.heap v l ∧ (l.map hdrSize).sum + 1 ≤ Rows.uptoBulk x.1 ∧ l.length + 1 ≤ Rows.uptoBulk x.1 :=
  open_sl (R := HeadR) Tryz.underlying37 cells90 (by omega) (fun _ _ _ hl h => open_hdr hl h) h
def partSize (p : PartL) : Nat := (p.1.map hdrSize).sum + p.2.length + 1
theorem open_part (hl : cs.length = 2) (h : DataW.trod enc Tryz.prog w base (fun _ => true) held fuel 39 cs = some x) : ∃ p : PartL, PartR [] w.heap p cs ∧ partSize p ≤ Rows.uptoBulk x.1 := by
  obtain ⟨xs, n, rfl, rfl, _, hxl, hf⟩ := DataW.trod_struct Tryz.underlying39 h
  obtain ⟨y0, y1, rfl⟩ := len_two hxl
  obtain ⟨c0, c1, rfl⟩ := len_two hl
  · · skip
      have h0 : DataW.trod enc Tryz.prog w base (fun _ => true) held n 37 (([c0, c1].drop 0).take (Tryz.prog.cellsOf 37)) = some y0 := hf 0 _ rfl
      rw [cells37] at h0
      replace h0 : DataW.trod enc Tryz.prog w base (fun _ => true) held n 37 [c0] = some y0 := h0
      have h1 : DataW.trod enc Tryz.prog w base (fun _ => true) held n 23 (([c0, c1].drop 1).take (Tryz.prog.cellsOf 23)) = some y1 := hf 1 _ rfl
      rw [cells23] at h1
      replace h1 : DataW.trod enc Tryz.prog w base (fun _ => true) held n 23 [c1] = some y1 := h1
      obtain ⟨u, a, e0, hu, s0, _⟩ := open_heads h0
      obtain ⟨v, c, e1, hv, s1⟩ := open_body h1
      obtain rfl := List.singleton_inj.1 e0
      obtain rfl := List.singleton_inj.1 e1
      refine ⟨(a, c), ⟨_, _, rfl, hu, hv⟩, ?_⟩
      simp only [partSize, List.map_cons, List.map_nil, Rows.uptoBulk, Rows.uptoBulkAll]
      omega
theorem open_parts (h : DataW.trod enc Tryz.prog w base (fun _ => true) held fuel 26 cs = some x) : ∃ v l, cs = [v] ∧ PartsV [] w.heap v l ∧ (l.map partSize).sum + 1 ≤ Rows.uptoBulk x.1 ∧ l.length + 1 ≤ Rows.uptoBulk x.1 :=
  open_sl (R := PartR) Tryz.underlying26 cells39 (by omega) (fun _ _ _ hl h => open_part hl h) h
end
theorem one_cell {v : Value} {u : Value} (h : v.cells.toList = [u]) (hn : ∀ cs, v ≠ .agg cs) : v = u := by
  cases v <;> first | (simpa [Value.cells] using h) | exact absurd rfl (hn _)
end Go.Proofs.YtfajmapajpfocaaGreatDoor
namespace Go.Proofs.YtfajmapajpfocaaGreatDoor
open Go Go.Cps Go.RowKit
theorem gEOF' : Tryz.prog.globalNamed "io.EOF" = some 0 := by kernel_rfl
theorem gEOFType' : (Tryz.prog.globals[0]?).map (·.type) = some 60 := by kernel_rfl
theorem gUEF : Tryz.prog.globalNamed "io.ErrUnexpectedEOF" = some 16 := by kernel_rfl
theorem gUEFType : (Tryz.prog.globals[16]?).map (·.type) = some 60 := by kernel_rfl
theorem gFull : Tryz.prog.globalNamed "bufio.ErrBufferFull" = some 4 := by kernel_rfl
theorem gFullType : (Tryz.prog.globals[4]?).map (·.type) = some 60 := by kernel_rfl
theorem cells140' : Tryz.prog.cellsOf 140 = 1 := by kernel_rfl
theorem star' : "*" ++ "errors.errorString" = "*errors.errorString" := by decide
theorem row138' (u : TypeId) (h : Tryz.prog.typeName? 3 u = some "*errors.errorString") : u = 138 :=
  typeName_ptr_named (nm := "errors.errorString") (by rw [star']; kernel_rfl) (by kernel_rfl) (by decide) u (by rw [star']; exact h)
theorem var_heap {W : World} {n : String} {g : Nat} {cs : Array Value} (hg : Tryz.prog.globalNamed n = some g) (hv : W.var? Tryz.prog n = some cs) : ∃ t f, W.heap[g]? = some (.cells cs t f) := by
  unfold World.var? at hv
  rw [hg] at hv
  simp only [Option.bind_some] at hv
  cases hh : W.heap[g]? with
  | none => rw [hh] at hv; simp at hv
  | some o =>
    rw [hh] at hv
    cases o <;> simp at hv
    subst hv
    exact ⟨_, _, rfl⟩
theorem errs_of {W : World} {r r' : List (String × DataW Unit)} (h : laidMet Tryz.prog (("io.EOF", Rows.laid_io_EOF) :: ("io.ErrUnexpectedEOF", Rows.laid_io_ErrUnexpectedEOF) :: r) W) (h' : laidMet Tryz.prog (("bufio.ErrBufferFull", Rows.laid_bufio_ErrBufferFull) :: r') W) :
    ∃ ea ua : Addr, Errs W.heap.size ea ua W.heap := by
  obtain ⟨ms, h60⟩ := und60
  obtain ⟨ea, ua, s0, s1, c0, c1, t0, t1, hv0, hv1, _, _, _, _, _, _, hne, hb0, hb1⟩ := laid_sentinels2 h gEOF' gEOFType' gUEF gUEFType h60 row138' und138 Tryz.underlying140 rfl rfl und9 cells140' cells9'
  obtain ⟨fa, s, hv4, _, _, _⟩ := laid_sentinel h' gFull gFullType h60 row138' und138 Tryz.underlying140 rfl rfl und9 cells140' cells9'
  obtain ⟨t, f, e0⟩ := var_heap gEOF' hv0
  obtain ⟨t', f', e16⟩ := var_heap gUEF hv1
  obtain ⟨t'', f'', e4⟩ := var_heap gFull hv4
  exact ⟨ea, ua, ⟨_, _, e0⟩, ⟨_, _, e16⟩, hne, ⟨lt_of_some hb0, _, _, hb0⟩, ⟨lt_of_some hb1, _, _, hb1⟩, lt_of_some e16, ⟨_, _, _, _, e4⟩⟩
end Go.Proofs.YtfajmapajpfocaaGreatDoor
namespace Go.Proofs.YtfajmapajpfocaaGreatDoor
open Go Go.Cps Go.ChangeShapes Go.WideShapes Go.ChangeAt Go.RowKit
theorem own' : ownKnob Tryz.prog.godebug = none := by kernel_rfl
theorem laidOut' : laidOutB Tryz.prog = true := by kernel_rfl
theorem calls_of' {f : FuncId} {args : Array Value} {W : World} (h : CallsH Tryz.prog f args W.heap fun x H' => x = .bool true ∧ Frm [] W.heap H') :
    Calls Tryz.prog f args W fun e W' => e = .returned (.bool true) ∧ Go.RowKit.Below W.heap.size W W' := by
  refine (h W rfl).mono ?_
  rintro e W' ⟨v, rfl, hs, rfl, hf⟩
  exact ⟨rfl, hs.os, hs.tape, hs.output, hf.size, fun k hk => hf.same k hk (by simp)⟩
theorem trodVars_two' {H : Type} {enc : TypeId × Value → H} {P : Program} {w : World} {sp : Nat → Bool} {a b : String} {gs : List (DataW H)} {ps : List MemPlace} (h : DataW.TrodVars enc P w sp [a, b] gs ps) : ∃ g1 g2, gs = [g1, g2] := by
  match gs, h with
  | [], h => exact h.elim
  | [_], h => obtain ⟨_, _, _, _, _, _, _, _, _, _, h, _⟩ := h; exact h.elim
  | [g1, g2], _ => exact ⟨g1, g2, rfl⟩
  | _ :: _ :: _ :: _, h => obtain ⟨_, _, _, _, _, _, _, _, _, _, h, _⟩ := h; obtain ⟨_, _, _, _, _, _, _, _, _, _, h, _⟩ := h; exact h.elim
set_option maxRecDepth 100000 in
theorem no_agg {t e : TypeId} {W : World} {base : Nat} {v : Value} (ht : Tryz.prog.underlying t = some (.slice e)) (h : Value.okWide Tryz.prog W .any base t v) : ∀ cs, v ≠ .agg cs := by
  rintro cs rfl
  unfold Value.okWide at h
  rw [ht] at h
  simp only [Cell.okWide, Cell.ok, ht] at h
set_option maxRecDepth 100000 in
theorem no_agg_str {t : TypeId} {W : World} {base : Nat} {v : Value} (ht : Tryz.prog.underlying t = some .string) (h : Value.okWide Tryz.prog W .any base t v) : ∀ cs, v ≠ .agg cs := by
  rintro cs rfl
  unfold Value.okWide at h
  rw [ht] at h
  simp only [Cell.okWide, Cell.ok, ht] at h
section
variable {H : Type} {enc : TypeId × Value → H} {W : World} {base b0 : Nat} {held : Bool} {v : Value} {d : DataW H} {p : List MemPlace}
set_option maxRecDepth 100000 in
theorem arg_parts (hok : Value.okWide Tryz.prog W .any b0 26 v) (h : DataW.Trod enc Tryz.prog W base (fun _ => true) held 26 v d p) : ∃ l, PartsV [] W.heap v l ∧ (l.map partSize).sum + 1 ≤ Rows.uptoBulk d ∧ l.length + 1 ≤ Rows.uptoBulk d := by
  obtain ⟨fuel, h⟩ := h
  obtain ⟨u, l, e, h1, h2, h3⟩ := open_parts h
  have hna : ∀ cs, v ≠ .agg cs := no_agg (t := 26) (e := 39) Tryz.underlying26 hok
  have hvu := one_cell e hna
  subst hvu
  exact ⟨l, h1, h2, h3⟩
set_option maxRecDepth 100000 in
theorem arg_body (hok : Value.okWide Tryz.prog W .any b0 23 v) (h : DataW.Trod enc Tryz.prog W base (fun _ => true) held 23 v d p) : ∃ l, BytV [] W.heap v l ∧ l.length + 1 ≤ Rows.uptoBulk d := by
  obtain ⟨fuel, h⟩ := h
  obtain ⟨u, l, e, h1, h2⟩ := open_body h
  have hna : ∀ cs, v ≠ .agg cs := no_agg (t := 23) (e := 5) Tryz.underlying23 hok
  have hvu := one_cell e hna
  subst hvu
  exact ⟨l, h1, h2⟩
set_option maxRecDepth 100000 in
theorem arg_text (hok : Value.okWide Tryz.prog W .any b0 9 v) (h : DataW.Trod enc Tryz.prog W base (fun _ => true) held 9 v d p) : ∃ l, v = Cps.strVal l ∧ l.length + 1 ≤ Rows.uptoBulk d := by
  obtain ⟨fuel, h⟩ := h
  obtain ⟨l, e, h2⟩ := open_text h
  have hna : ∀ cs, v ≠ .agg cs := no_agg_str (t := 9) und9 hok
  have hvu := one_cell e hna
  subst hvu
  exact ⟨l, rfl, h2⟩
end
theorem bulk_iface {H : Type} {enc : TypeId × Value → H} {P : Program} {w : World} {base : Nat} {sp : Nat → Bool} {fuel : Nat} {t : TypeId} {ms : Array (String × TypeId)} {cs : List Value} {x : DataW H × List MemPlace} (ht : P.underlying t = some (.interface ms))
    (h : DataW.trod enc P w base sp true fuel t cs = some x) : Rows.uptoBulk x.1 = 1 := by
  cases fuel with
  | zero => simp [DataW.trod] at h
  | succ n =>
    unfold DataW.trod at h
    rw [ht] at h
    split at h <;> simp_all
    · rw [← h]; simp [Rows.uptoBulk]
    · rw [← h]; simp [Rows.uptoBulk]
theorem bulk_vars {H : Type} {enc : TypeId × Value → H} {w : World} {sp : Nat → Bool} {a b : String} {i j : Nat} {gs : List (DataW H)} {ps : List MemPlace} (ha : Tryz.prog.globalNamed a = some i) (hb : Tryz.prog.globalNamed b = some j)
    (hi : (Tryz.prog.globals[i]?).map (·.type) = some 60) (hj : (Tryz.prog.globals[j]?).map (·.type) = some 60) (h : DataW.TrodVars enc Tryz.prog w sp [a, b] gs ps) : Rows.uptoBulkAll gs = 2 := by
  obtain ⟨g1, g2, rfl⟩ := trodVars_two' h
  obtain ⟨ms, h60⟩ := und60
  obtain ⟨i', t', cs, fuel, p, q, e1, e2, _, h1, ⟨j', u', cs', fuel', p', q', e3, e4, _, h2, _⟩, _⟩ := h
  rw [ha] at e1
  cases e1
  rw [hi] at e2
  cases e2
  rw [hb] at e3
  cases e3
  rw [hj] at e4
  cases e4
  have b1 : Rows.uptoBulk g1 = 1 := bulk_iface h60 h1
  have b2 : Rows.uptoBulk g2 = 1 := bulk_iface h60 h2
  simp only [Rows.uptoBulkAll, b1, b2]
theorem gA : Tryz.prog.globalNamed "loop.example/pub-mailparts/pub/multipart.ErrMessageTooLarge" = some 7 := by kernel_rfl
theorem gB : Tryz.prog.globalNamed "loop.example/pub-mailparts/pub/textproto.errMessageTooLarge" = some 14 := by kernel_rfl
theorem tA : (Tryz.prog.globals[7]?).map (·.type) = some 60 := by kernel_rfl
theorem tB : (Tryz.prog.globals[14]?).map (·.type) = some 60 := by kernel_rfl
end Go.Proofs.YtfajmapajpfocaaGreatDoor
