/-
  A part of the proof: Closing a raw part that has been read whole; the part's environment when its reader names it. A part in the quoted-printable encoding: its reader is made; it is read whole; it is closed. What the bodies of some functions of the program come to, at heap level, each proved of the program itself.
  Conditions: each contract's own.
-/
import Derived.Test.YtfajmapajpfocaaGreatDoorF4
import Derived.Test.YtfajmapajpfocaaGreatDoorF20
import Derived.Test.YtfajmapajpfocaaGreatDoorF23
set_option linter.all false
namespace Go.Cps
open Go Go.Proofs
theorem RB.setm {S : Stk} {mr tb : Nat} {m m' : MRf} {bd : List UInt8} {B : Nat} {ea ua : Addr} {mode : Option (List UInt8)} {pt hm : Nat} {b : List UInt8} {n total : Nat} {ev : Sk} {re : Bool} {s : St} {H H' : Heap}
    (h : RB (rawEnv S mr tb m bd B ea ua mode pt hm) b n total ev re s H) (hm' : H'[mr]? = some (.cells m'.cells 127 (0, 0))) (f : Frm [mr] H H') (he : m'.br = m.br ∧ m'.nl = m.nl ∧ m'.nld = m.nld ∧ m'.dd = m.dd ∧ m'.dash = m.dash) :
    RB (rawEnv S mr tb m' bd B ea ua mode pt hm) b n total ev re s H' := by
  have hpt : pt ∉ mr :: tb :: S.ids := h.hpt
  simp only [List.mem_cons, not_or] at hpt
  have ma : MRAt S mr tb m bd H := h.ma
  have hne : ∀ x ∈ S.ids, x ∉ [mr] := fun x hx => by rw [List.mem_singleton]; rintro rfl; exact ma.hmr hx
  have htb : tb ∉ [mr] := by rw [List.mem_singleton]; intro e; exact ma.ht (by simp [e])
  obtain ⟨e1, e2, e3, e4, e5⟩ := he
  have hrd : RdAt S s H' := h.rd.frm f hne (fun x hx => by rw [List.mem_singleton]; rintro rfl; exact ma.hv hx) (by rw [List.mem_singleton]; exact fun e => ma.h0 e.symm)
  have hp : H'[pt]? = some (.cells (ptCells (rawEnv S mr tb m bd B ea ua mode pt hm).P mr n total (skV (.iface 138 (.pointer (some ea))) (.iface 138 (.pointer (some ua))) ev) (if re then .iface 138 (.pointer (some ua)) else .nilIface)) 148 (0, 0)) := f.get h.hp (by rw [List.mem_singleton]; exact hpt.1)
  refine { rd := hrd, ma := ?_, hp := hp, er := ?_, bdr := h.bdr, rest := h.rest, nw := h.nw, t0 := h.t0, nb := h.nb, nk := h.nk, full := h.full, cut := h.cut, tot := h.tot, low := h.low, hpt := h.hpt, hpv := h.hpv, hE := h.hE }
  · exact { hm := hm', hbr := by rw [show (rawEnv S mr tb m' bd B ea ua mode pt hm).m = m' from rfl, e1]; exact ma.hbr, nl := by
              rw [show (rawEnv S mr tb m' bd B ea ua mode pt hm).m = m' from rfl, e2]; exact ma.nl.frm f (fun x hx => by rw [ma.bl.1] at hx; cases hx; exact htb), nld := by
              rw [show (rawEnv S mr tb m' bd B ea ua mode pt hm).m = m' from rfl, e3]; exact ma.nld.frm f (fun x hx => by rw [ma.bl.2.1] at hx; cases hx; exact htb), dd := by
              rw [show (rawEnv S mr tb m' bd B ea ua mode pt hm).m = m' from rfl, e4]; exact ma.dd.frm f (fun x hx => by rw [ma.bl.2.2.1] at hx; cases hx; exact htb), dash := by
              rw [show (rawEnv S mr tb m' bd B ea ua mode pt hm).m = m' from rfl, e5]; exact ma.dash.frm f (fun x hx => by rw [ma.bl.2.2.2] at hx; cases hx; exact htb), bl := by
              rw [show (rawEnv S mr tb m' bd B ea ua mode pt hm).m = m' from rfl, e2, e3, e4, e5]; exact ma.bl, ht := ma.ht, hmr := ma.hmr, hv := ma.hv, h0 := ma.h0 }
  · exact Errs.frm (B := B) h.er f (fun x hx => by
      rw [List.mem_singleton] at hx; subst hx
      exact h.low x (by simp [rawEnv]))
theorem ahead116 (a : Addr) : aheadP Tryz.prog 116 (.pointer (some a)) "Read" = true := by kernel_rfl
theorem RB.pr {S : Stk} {mr tb : Nat} {m : MRf} {bd : List UInt8} {B : Nat} {ea ua : Addr} {mode : Option (List UInt8)} {pt hm : Nat} {b : List UInt8} {n total : Nat} {ev : Sk} {re : Bool} {s : St} {H : Heap}
    (h : RB (rawEnv S mr tb m bd B ea ua mode pt hm) b n total ev re s H) (h5 : S.tbf = 5) (hv : ∀ x, blk S.v = some x → x < H.size) (htb : tb < H.size) (hB : B ≤ H.size) : PR S mr tb m bd B ea ua s H :=
  ⟨h.rd, h.ma, h.er, h.bdr, fun x hx => h.low x (by simp only [rawEnv] at hx ⊢; simp only [List.mem_cons] at hx ⊢; exact .inr hx), h.hE, h5, hv, htb, hB⟩
theorem closeRaw_ok {S : Stk} {mr tb : Nat} {m : MRf} {bd : List UInt8} {B : Nat} {ea ua : Addr} {t : List UInt8} {pt hm : Nat} {total : Nat} {s : St} {H : Heap} (h : RB (rawEnv S mr tb m bd B ea ua (some t) pt hm) [] 0 total .eof false s H) (h5 : S.tbf = 5) (hv : ∀ x, blk S.v = some x → x < H.size) (htb : tb < H.size) (hB : B ≤ H.size) (hcur : m.cur = .pointer (some ⟨pt, 0, none⟩)) :
    Closes S mr tb m bd B ea ua (nldOf bd ++ t) [pt] H := by
  refine .inr ⟨⟨pt, 0, none⟩, hcur, h.ma.hm, ?_⟩
  have hPR := h.pr h5 hv htb hB
  apply s92
  simp only [c92, Q6]
  apply s108
  simp only [c108, New]
  have f1 : Frm [] H (H.push (.cells (Array.replicate 512 (.int .u8 0)) 212 (0, 0))) := Frm.push _ _ _
  have hd := push_same H (.cells (Array.replicate 512 (.int .u8 0)) 212 (0, 0))
  have h1 := h.push (.cells (Array.replicate 512 (.int .u8 0)) 212 (0, 0))
  have z1 : (H.push (.cells (Array.replicate 512 (.int .u8 0)) 212 (0, 0))).size = H.size + 1 := by simp
  generalize H.push (.cells (Array.replicate 512 (.int .u8 0)) 212 (0, 0)) = H1 at *
  refine ⟨fun n vs H2 => H2 = H1, ⟨0, rfl⟩, ?_⟩
  rintro n vs H1 rfl
  have e1 : arrSliceV 512 1 (.pointer (some ⟨H.size, 0, none⟩)) none none none = some (.slice (some ⟨H.size, 0, none⟩) 512 512) := by simp [arrSliceV, boundsV, boundV, Addr.add]
  simp only [e1, Q0, Q1, Q2, Q3, Q4, Q5, Q6, Q7, Q8, Q9, Qa, Qb, Qc, Qd, Qe, Qf, Qg, Qh, Qi, Qj, nilV_method (ahead116 _)]
  refine invoke_of 213 meth116 body213 ?_
  have hlow : ∀ x ∈ pt :: mr :: tb :: S.ids, x < H.size := fun x hx => by
    rcases List.mem_cons.1 hx with rfl | hx
    · exact lt_of_some h.hp
    · exact hPR.lt x hx
  refine (pRead_ok (e := rawEnv S mr tb m bd B ea ua (some t) pt hm) (dn := 512) (dc := 512) rfl h1 hd (by simp) (Nat.le_refl _) (by omega) (by omega) (fun hm => by have := hlow _ hm; omega) hB (fun hh => by have := hv _ hh; omega)).mono ?_
  rintro x H2 ⟨k, n', total', ev', re', s', rfl, hk1, hk2, h2, hd2, f2, g1, g2⟩
  have hk0 : k = 0 := by simpa using hk2
  subst hk0
  have hn0 := g2 rfl
  subst hn0
  have hne : ev' ≠ .go := fun e => by have := g1 rfl e; omega
  have hgo : ev'.isGo = false := by rw [← Bool.not_eq_true, Sk.isGo_iff]; exact hne
  simp only [Q0, Q1, Q2, Q3, Q4, Q5, Q6, Q7, Q8, Q9, Qa, Qb, Qc, Qd, Qe, Qf, Qg, Qh, Qi, Qj, if_true, skV_neq, hgo, Bool.not_false]
  have hr2 : s'.rest S = nldOf bd ++ t := by have := h2.rest; simpa [rawEnv, REnv.tail] using this
  exact ⟨s', h2.pr h5 (fun x hx => by have := hv x hx; have := f2.size; omega) (by have := f2.size; omega) (by have := f2.size; omega), hr2, (f1.mono (by simp)).up f2 (fun x hx => by
    rcases List.mem_cons.1 hx with rfl | hx
    · exact .inr (Nat.le_refl _)
    · exact .inl (by simpa [rawEnv] using hx))⟩
end Go.Cps
namespace Go.Cps
open Go Go.Proofs
theorem assertRun189 (v : Value) (w : World) : (Instr.typeAssert (.iface 189 v) 77 121 true).run Tryz.prog w = .ok (.tuple #[.pointer none, .bool false]) w := by kernel_rfl
theorem tassert189 {r : Value} {H : Heap} {K : Value → Heap → Prop} : ExecV Tryz.prog (Instr.typeAssert (.iface 189 r) 77 121 true) H K = K (.tuple #[.pointer none, .bool false]) H := ExecV.eq fun w _ => assertRun189 r w
theorem newSize2_ok {r : Value} {H : Heap} :
    CallsH Tryz.prog 69 #[.iface 189 r, .int .i64 4096] H fun x H' => ∃ b bf, x = .pointer (some ⟨b, 0, none⟩) ∧ H.size ≤ b ∧ H.size ≤ bf ∧ b ≠ bf ∧
      H'[b]? = some (.cells #[.slice (some ⟨bf, 0, none⟩) 4096 4096, .iface 189 r, .int .i64 0, .int .i64 0, .nilIface, .int .i64 (-1), .int .i64 (-1)] 153 (0, 0)) ∧
      H'[bf]? = some (.cells ((zbuf 4096).map byteV).toArray 5 (0, 0)) ∧ Frm [] H H' := by
  apply s69
  unfold c69
  rw [tassert189]
  have hmax : maxV (.int .i64 4096) (.int .i64 16) = some (.int .i64 ((4096 : Nat) : Int)) := rfl
  simp only [Q0, Q1, Q2, Q3, Q4, Q5, Q6, Q7, Q8, Q9, Qa, Qb, Qc, Qd, Qe, Qf, Qg, Qh, Qi, Qj]
  refine Join_direct ?_
  simp only [Q0, Q1, Q2, Q3, Q4, Q5, Q6, Q7, Q8, Q9, Qa, Qb, Qc, Qd, Qe, Qf, Qg, Qh, Qi, Qj, Bool.false_eq_true, if_false, hmax, New]
  refine makeBytes_of (n := 4096) (by omega) ?_
  refine (reset_ok (b := H.size) (cs := #[(.slice none 0 0), .nilIface, (.int .i64 0), (.int .i64 0), .nilIface, (.int .i64 0), (.int .i64 0)]) (t := 153) (push_old (push_same _ _)) rfl rfl rfl).mono ?_
  rintro x H' ⟨hb, f, z⟩
  refine ⟨H.size, _, rfl, Nat.le_refl _, ?_, ?_, hb, f.get (push_same _ _) (by simp), ?_⟩
  · simp
  · simp
  · refine ⟨by rw [z]; simp; omega, fun k hk _ => ?_⟩
    rw [f.same k (by simp; omega) (by simp; omega), Array.getElem?_push, if_neg (by simp; omega), Array.getElem?_push, if_neg (by omega)]
theorem qNew_ok {e : REnv} {b : List UInt8} {s : St} {H : Heap} (h : RB e b 0 0 .go false s H) (hm : ∃ tl, e.mode = some tl) (hlt : ∀ x ∈ e.all, x < H.size) (hv : ∀ x, blk e.S.v = some x → x < H.size) (hB : e.B ≤ H.size) :
    CallsH Tryz.prog 118 #[.iface 189 (.agg #[.pointer (some ⟨e.pt, 0, none⟩)])] H fun x H' => ∃ q F t, x = .pointer (some ⟨q, 0, none⟩) ∧ QR e F q t false (.slice none 0 0) [] H' ∧ t.rest = b ∧ Frm [] H H' ∧ H.size ≤ q ∧ H.size ≤ F.b ∧ H.size ≤ F.bf := by
  apply s118
  unfold c118
  apply s147
  unfold c147
  refine newSize2_ok.mono ?_
  rintro x H1 ⟨fb, fbf, rfl, hb, hbf, hne, hcb, hcbf, f1⟩
  have e1 : fillV #[(0, 1), (1, 1), (2, 1)] #[(.pointer none), .nilIface, (.slice none 0 0)] [(0, .pointer (some ⟨fb, 0, none⟩))] = some #[.pointer (some ⟨fb, 0, none⟩), .nilIface, .slice none 0 0] := by
    rw [fillV_cons rfl rfl (by simp), fillV_nil]; rfl
  simp only [e1, Option.map_some, Q6, New, Value.cells]
  have hq2 := push_same H1 (.cells #[.pointer (some ⟨fb, 0, none⟩), .nilIface, .slice none 0 0] 223 (0, 0))
  have f2 : Frm [] H1 (H1.push (.cells #[.pointer (some ⟨fb, 0, none⟩), .nilIface, .slice none 0 0] 223 (0, 0))) := Frm.push _ _ _
  have l1 := lt_of_some hcb
  have l2 := lt_of_some hcbf
  have hs1 := f1.size
  generalize H1.push (.cells #[.pointer (some ⟨fb, 0, none⟩), .nilIface, .slice none 0 0] 223 (0, 0)) = H2 at *
  refine ⟨H1.size, ⟨fb, fbf, 153, 5⟩, ⟨zbuf 4096, 0, 0, false, -1, -1, b, 0, 0, .go, false, s⟩, rfl, ?_, ?_, f1.trans f2, by omega, hb, hbf⟩
  · refine ⟨?_, hq2, .inr ⟨none, rfl, rfl⟩, .inl rfl, rfl, by simp, ⟨by show H1.size ≠ fb; omega, by show H1.size ≠ fbf; omega, by omega, fun hm => by have := hlt _ hm; omega, fun hm => by have := hv _ hm; omega⟩⟩
    exact { hb := f2.get hcb (by simp), hbf := f2.get hcbf (by simp), rb := h.frm (f1.trans f2) (by simp), full := hm, blen := zbuf_length 4096, rw := Nat.le_refl _, w4 := by simp, he := by simp, ne := hne, da := ⟨fun hm => by have : fb < H.size := hlt _ hm; omega, fun hm => by have : fbf < H.size := hlt _ hm; omega⟩, dB := ⟨by show e.B ≤ fb; omega, by show e.B ≤ fbf; omega⟩, dv := ⟨fun hm => by have : fb < H.size := hv _ hm; omega, fun hm => by have : fbf < H.size := hv _ hm; omega⟩ }
  · simp [QSt.rest, QSt.bufd]
def qEnv (S : Stk) (mr tb : Nat) (m : MRf) (bd : List UInt8) (B : Nat) (ea ua : Addr) (mode : Option (List UInt8)) (pt hm q : Nat) : REnv :=
  ⟨S, mr, tb, m, bd, pt, ⟨.map (some hm), .string ⟨#[]⟩, .map none, .iface 192 (.pointer (some ⟨q, 0, none⟩))⟩, 148, B, ea, ua, mode⟩
theorem RB.env {S : Stk} {mr tb : Nat} {m m' : MRf} {bd : List UInt8} {B : Nat} {ea ua : Addr} {mode : Option (List UInt8)} {pt : Nat} {P P' : PF} {b : List UInt8} {n total : Nat} {ev : Sk} {re : Bool} {s : St} {H H' : Heap}
    (h : RB ⟨S, mr, tb, m, bd, pt, P, 148, B, ea, ua, mode⟩ b n total ev re s H) (hp : H'[pt]? = some (.cells (ptCells P' mr n total (skV (.iface 138 (.pointer (some ea))) (.iface 138 (.pointer (some ua))) ev) (if re then .iface 138 (.pointer (some ua)) else .nilIface)) 148 (0, 0)))
    (hm' : H'[mr]? = some (.cells m'.cells 127 (0, 0))) (f : Frm [pt, mr] H H') (he : m'.br = m.br ∧ m'.nl = m.nl ∧ m'.nld = m.nld ∧ m'.dd = m.dd ∧ m'.dash = m.dash) :
    RB ⟨S, mr, tb, m', bd, pt, P', 148, B, ea, ua, mode⟩ b n total ev re s H' := by
  have hpt : pt ∉ mr :: tb :: S.ids := h.hpt
  simp only [List.mem_cons, not_or] at hpt
  have ma : MRAt S mr tb m bd H := h.ma
  have hpv : blk S.v ≠ some pt := h.hpv
  have h16 := h.er.b16
  have hlow : ∀ x ∈ [pt, mr], B ≤ x := fun x hx => h.low x (by simp at hx ⊢; rcases hx with h | h <;> simp [h])
  have hne : ∀ x ∈ S.ids, x ∉ [pt, mr] := fun x hx hm => by
    simp only [List.mem_cons, List.not_mem_nil, or_false] at hm
    rcases hm with rfl | rfl
    · exact hpt.2.2 hx
    · exact ma.hmr hx
  have htb : tb ∉ [pt, mr] := fun hm => by
    simp only [List.mem_cons, List.not_mem_nil, or_false] at hm
    rcases hm with rfl | rfl
    · exact hpt.2.1 rfl
    · exact ma.ht (by simp)
  obtain ⟨e1, e2, e3, e4, e5⟩ := he
  have hrd : RdAt S s H' := h.rd.frm f hne (fun x hx hm => by
    simp only [List.mem_cons, List.not_mem_nil, or_false] at hm
    rcases hm with rfl | rfl
    · exact hpv hx
    · exact ma.hv hx) (fun hm => by
    have := hlow 0 hm
    have : (16 : Nat) < B := h16
    omega)
  refine { rd := hrd, ma := ?_, hp := hp, er := ?_, bdr := h.bdr, rest := h.rest, nw := h.nw, t0 := h.t0, nb := h.nb, nk := h.nk, full := h.full, cut := h.cut, tot := h.tot, low := h.low, hpt := h.hpt, hpv := h.hpv, hE := h.hE }
  · show MRAt S mr tb m' bd H'
    exact { hm := hm', hbr := by rw [e1]; exact ma.hbr, nl := by
              rw [e2]; exact ma.nl.frm f (fun x hx => by rw [ma.bl.1] at hx; cases hx; exact htb), nld := by
              rw [e3]; exact ma.nld.frm f (fun x hx => by rw [ma.bl.2.1] at hx; cases hx; exact htb), dd := by
              rw [e4]; exact ma.dd.frm f (fun x hx => by rw [ma.bl.2.2.1] at hx; cases hx; exact htb), dash := by
              rw [e5]; exact ma.dash.frm f (fun x hx => by rw [ma.bl.2.2.2] at hx; cases hx; exact htb), bl := by
              rw [e2, e3, e4, e5]; exact ma.bl, ht := ma.ht, hmr := ma.hmr, hv := ma.hv, h0 := ma.h0 }
  · exact Errs.frm (B := B) h.er f hlow
theorem QR.env {S : Stk} {mr tb : Nat} {m m' : MRf} {bd : List UInt8} {B : Nat} {ea ua : Addr} {mode : Option (List UInt8)} {pt : Nat} {P P' : PF} {F : QF} {q : Nat} {t : QSt} {rerr : Bool} {lv : Value} {ln : List UInt8} {H H' : Heap}
    (h : QR ⟨S, mr, tb, m, bd, pt, P, 148, B, ea, ua, mode⟩ F q t rerr lv ln H) (hp : H'[pt]? = some (.cells (ptCells P' mr t.n t.total (skV (.iface 138 (.pointer (some ea))) (.iface 138 (.pointer (some ua))) t.ev) (if t.re then .iface 138 (.pointer (some ua)) else .nilIface)) 148 (0, 0)))
    (hm' : H'[mr]? = some (.cells m'.cells 127 (0, 0))) (f : Frm [pt, mr] H H') (he : m'.br = m.br ∧ m'.nl = m.nl ∧ m'.nld = m.nld ∧ m'.dd = m.dd ∧ m'.dash = m.dash) :
    QR ⟨S, mr, tb, m', bd, pt, P', 148, B, ea, ua, mode⟩ F q t rerr lv ln H' := by
  have hda := h.qa.da
  have hdq := h.dq
  have hmem : ∀ x ∈ [pt, mr], x ∈ pt :: mr :: tb :: S.ids := fun x hx => by simp at hx ⊢; rcases hx with h | h <;> simp [h]
  have h1 : F.b ∉ [pt, mr] := fun hm => hda.1 (hmem _ hm)
  have h2 : F.bf ∉ [pt, mr] := fun hm => hda.2 (hmem _ hm)
  have h3 : q ∉ [pt, mr] := fun hm => hdq.2.2.2.1 (hmem _ hm)
  refine ⟨?_, f.get h.hq h3, ?_, h.lr, h.one, h.fin, h.dq⟩
  · have hb := f.get h.qa.hb h1
    have hbf := f.get h.qa.hbf h2
    have qa := h.qa
    exact { hb := hb, hbf := hbf, rb := qa.rb.env hp hm' f he, full := qa.full, blen := qa.blen, rw := qa.rw, w4 := qa.w4, he := qa.he, ne := qa.ne, da := qa.da, dB := qa.dB, dv := qa.dv }
  · exact h.lb.frm' f (fun hne b hb => by
      rcases h.lr with h0 | ⟨o', n', c', rfl, _⟩
      · exact absurd h0 hne
      · simp only [blk_slice, Option.map_some, Option.some.injEq] at hb
        rw [← hb]; exact h2)
theorem meth192 : methodRes Tryz.prog 192 "Read" = some 231 := by kernel_rfl
theorem body231 : hasBody Tryz.prog 231 = true := by kernel_rfl
def REnv.quoted (e : REnv) (q : Nat) : Prop := e.P.r = .iface 192 (.pointer (some ⟨q, 0, none⟩))
theorem pReadQ_ok {e : REnv} {F : QF} {q : Nat} {t : QSt} {rerr : Bool} {lv : Value} {ln D : List UInt8} {H : Heap} {db dn dc : Nat} {cs : Array Value} {T : TypeId} (hr : e.quoted q) (h : QR e F q t rerr lv ln H) (hD : QRem ln rerr t.rest D) (hd : H[db]? = some (.cells cs T (0, 0))) (hdn : dn ≤ cs.size) (hdc : dn ≤ dc) (hd38 : dn < 2 ^ 38)
    (hdb : db ≠ q ∧ db ≠ F.b ∧ db ≠ F.bf ∧ e.B ≤ db ∧ db ∉ e.all ∧ blk e.S.v ≠ some db) :
    CallsH Tryz.prog 213 #[.pointer (some ⟨e.pt, 0, none⟩), .slice (some ⟨db, 0, none⟩) dn dc] H fun x H' => ∃ k eo t' rerr' lv' ln', x = .tuple #[.int .i64 (k : Nat), e.er eo] ∧ k ≤ dn ∧ k ≤ D.length ∧ QR e F q t' rerr' lv' ln' H' ∧ QRem ln' rerr' t'.rest (D.drop k) ∧ H'[db]? = some (.cells (putAt cs 0 ((D.take k).map byteV)) T (0, 0)) ∧
      Frm (db :: q :: F.ids e) H H' ∧ (eo = true → rerr' = true ∧ ln' = [] ∧ D.drop k = []) ∧ (eo = false → k = dn) := by
  apply s213
  have hr' : (ptCells e.P e.mr t.n t.total (skV e.E e.U t.ev) (e.rv t.re))[4]? = some (.iface 192 (.pointer (some ⟨q, 0, none⟩))) := by
    show some e.P.r = _
    rw [hr]
  simp only [c213, Q0, Q1, Q2, Q3, Q4, Q5, Q6, Q7, Q8, Q9, Qa, Qb, Qc, Qd, Qe, Qf, Qg, Qh, Qi, Qj, cellH_of h.qa.rb.hp, hr']
  refine invoke_of 231 meth192 body231 ?_
  refine (qRead_ok h hD hd hdn hdc hd38 hdb).mono ?_
  rintro x H1 ⟨k, eo, t', rerr', lv', ln', rfl, h1⟩
  simp only [Q0, Q1, Q2, Q3, Q4, Q5, Q6, Q7, Q8, Q9, Qa, Qb, Qc, Qd, Qe, Qf, Qg, Qh, Qi, Qj]
  exact ⟨k, eo, t', rerr', lv', ln', rfl, h1⟩
theorem allQ_ok {e : REnv} {F : QF} {q : Nat} {t : QSt} {lv : Value} {D : List UInt8} {H : Heap} (hr : e.quoted q) (h : QR e F q t false lv [] H) (hD : QText t.rest D) (hDl : D.length < 2 ^ 38) (hB : e.B ≤ H.size) (hH : ∀ x ∈ e.all, x < H.size) (hv : ∀ x, blk e.S.v = some x → x < H.size) :
    CallsH Tryz.prog 68 #[.iface 116 (.pointer (some ⟨e.pt, 0, none⟩))] H fun x H' => ∃ k out t' lv', x = .tuple #[out, .bool true] ∧ OwnB H' k out D ∧ QR e F q t' true lv' [] H' ∧ Frm (q :: F.ids e) H H' ∧ (∀ g, k = some g → H.size ≤ g) := by
  apply s68
  unfold c68
  refine makeBytes_of (n := 500) (by omega) ?_
  have hq0 := lt_of_some h.hq
  have hF0 := h.qa.low
  have hd0 := push_same H (.cells ((zbuf 500).map byteV).toArray 5 (0, 0))
  have f0 : Frm [] H (H.push (.cells ((zbuf 500).map byteV).toArray 5 (0, 0))) := Frm.push _ _ _
  have z0 : (H.push (.cells ((zbuf 500).map byteV).toArray 5 (0, 0))).size = H.size + 1 := by simp
  have hcs0 : ((zbuf 500).map byteV).toArray.size = 500 := by simp [zbuf_length]
  generalize ((zbuf 500).map byteV).toArray = cs0 at *
  generalize H.push (.cells cs0 5 (0, 0)) = H0 at *
  have h0 : QR e F q t false lv [] H0 := ⟨h.qa.frm f0 (by simp), f0.get h.hq (by simp), h.lb.frm f0 (by simp), h.lr, h.one, h.fin, h.dq⟩
  have hdb : H.size ≠ q ∧ H.size ≠ F.b ∧ H.size ≠ F.bf ∧ e.B ≤ H.size ∧ H.size ∉ e.all ∧ blk e.S.v ≠ some H.size := ⟨by omega, by omega, by omega, hB, fun hm => by have := hH _ hm; omega, fun hm => by have := hv _ hm; omega⟩
  have hids : ∀ x ∈ q :: F.ids e, x < H.size := fun x hx => by
    simp only [QF.ids, List.mem_cons] at hx
    rcases hx with rfl | rfl | rfl | rfl | hx
    · exact hq0
    · exact hF0.1
    · exact hF0.2
    · exact hH _ (by simp [REnv.all])
    · exact hH _ (by simp [REnv.all, hx])
  refine ⟨fun μ vs H1 => ∃ k out d D1 t1 rerr1 lv1 ln1 cs, vs = [out] ∧ μ = D1.length ∧ OwnB H1 k out d ∧ d ++ D1 = D ∧ QR e F q t1 rerr1 lv1 ln1 H1 ∧ QRem ln1 rerr1 t1.rest D1 ∧ H1[H.size]? = some (.cells cs 5 (0, 0)) ∧ cs.size = 500 ∧ Frm (q :: F.ids e) H H1 ∧ (∀ g, k = some g → H.size < g),
    ⟨_, none, _, [], D, t, false, lv, [], cs0, rfl, rfl, ⟨rfl, rfl⟩, rfl, h0, ⟨[], D, .nil, rfl, by simp, fun _ => hD⟩, hd0, hcs0, f0.mono (by simp), by simp⟩, ?_⟩
  clear h0 hd0 hcs0 f0
  rintro μ vs H1 ⟨k, out, d, D1, t1, rerr1, lv1, ln1, cs, rfl, rfl, hout, hdD, h1, hD1, hd1, hcs, f1, hk⟩
  simp only [Q0, Q1, Q2, Q3, Q4, Q5, Q6, Q7, Q8, Q9, Qa, Qb, Qc, Qd, Qe, Qf, Qg, Qh, Qi, Qj]
  refine invoke_of 213 meth116 body213 ?_
  refine (pReadQ_ok (dn := 500) (dc := 500) hr h1 hD1 hd1 (by omega) (Nat.le_refl _) (by omega) hdb).mono ?_
  rintro x H2 ⟨j, eo, t2, rerr2, lv2, ln2, rfl, hj1, hj2, h2, hD2, hd2, f2, g1, g2⟩
  have hjl : (D1.take j).length = j := by simp; omega
  have hsub := putAt_bytes (c := 500) hd2 (by rw [hjl]; omega) (by rw [hjl]; omega)
  rw [hjl] at hsub
  simp only [Q0, Q1, Q2, Q3, Q4, Q5, Q6, Q7, Q8, Q9, Qa, Qb, Qc, Qd, Qe, Qf, Qg, Qh, Qi, Qj]
  rw [sliceV_hi (by omega), Q6]
  have hlen : d.length + D1.length = D.length := by rw [← hdD, List.length_append]
  have hout2 : OwnB H2 k out d := hout.frm f2 (fun g hg hm => by
    have h5 := hk g hg
    rcases List.mem_cons.1 hm with rfl | hm
    · omega
    · have := hids g hm; omega)
  have f12 : Frm (q :: F.ids e) H H2 := f1.up f2 (fun x hx => by
    rcases List.mem_cons.1 hx with rfl | hx
    · exact .inr (Nat.le_refl _)
    · exact .inl hx)
  refine append_own hout2 hsub (by rw [hjl]; omega) fun k' sl' H3 hout3 f3 hk3 => ?_
  have hkk : ∀ g, k' = some g → H.size < g := by
    intro g hg
    rcases hk3 with h | ⟨g', h, hge⟩
    · exact hk g (by rw [← h, hg])
    · rw [hg] at h; cases h
      have := f12.size
      have := lt_of_some hd2
      omega
  have hkn : ∀ g ∈ k.toList, H.size < g := fun g hg => hk g (by simpa using hg)
  have hk3' : ∀ x ∈ k.toList, x ≠ q ∧ x ≠ F.b ∧ x ≠ F.bf ∧ e.B ≤ x ∧ x ∉ e.all ∧ blk e.S.v ≠ some x := fun x hx => by
    have h5 := hkn x hx
    exact ⟨by omega, by omega, by omega, by omega, fun hm => by have := hH x hm; omega, fun hm => by have := hv x hm; omega⟩
  have h3 : QR e F q t2 rerr2 lv2 ln2 H3 := ⟨h2.qa.frm f3 (fun x hx => (hk3' x hx).2), f3.get h2.hq (fun hm => (hk3' _ hm).1 rfl), h2.lb.frm' f3 (fun hne b hb hm => by
    rcases h2.lr with h | ⟨o', n', c', rfl, _⟩
    · exact hne h
    · simp only [blk_slice, Option.map_some, Option.some.injEq] at hb
      exact (hk3' _ hm).2.2.1 hb.symm), h2.lr, h2.one, h2.fin, h2.dq⟩
  have hd3 := f3.get hd2 (fun hm => by have := hkn _ hm; omega)
  have f13 : Frm (q :: F.ids e) H H3 := f12.up f3 (fun x hx => .inr (Nat.le_of_lt (hkn x hx)))
  have hcat : (d ++ D1.take j) ++ D1.drop j = D := by rw [List.append_assoc, List.take_append_drop, hdD]
  simp only [neq_qer, Q6]
  refine Br_intro (fun hh => ?_) (fun hh => ?_)
  · obtain ⟨hre, hl0, hd0⟩ := g1 hh
    subst hre hl0 hh
    rw [hd0, List.append_nil] at hcat
    rw [hcat] at hout3
    simp only [Qf, h3.qa.rb.er.eof.load, Q6]
    rw [show e.er true = .iface 138 (.pointer (some e.ea)) from rfl, eq_same]
    exact ⟨k', _, t2, lv2, rfl, hout3, h3, f13, fun g hg => by have := hkk g hg; omega⟩
  · have hj5 := g2 hh
    exact ⟨_, by rw [List.length_drop]; omega, k', sl', _, _, t2, rerr2, lv2, ln2, _, rfl, rfl, hout3, hcat, h3, hD2, hd3, by simpa using hcs, f13, hkk⟩
theorem QText.le {R D : List UInt8} (h : QText R D) : D.length ≤ R.length := by
  have ht : ∀ {p d : List UInt8}, Tok p d → d.length ≤ p.length := fun h => by
    induction h with
    | nil => simp
    | lit c r d _ _ ih => simp; omega
    | esc a b x y r d _ _ _ ih => simp; omega
  induction h with
  | last p q d hp _ _ _ _ => have := ht hp; simp; omega
  | hard p q d r D hp _ _ _ _ _ ih => have := ht hp; simp; omega
  | soft p d r D hp _ _ _ ih => have := ht hp; simp; omega
theorem closeQ_ok {S : Stk} {mr tb : Nat} {m : MRf} {bd : List UInt8} {B : Nat} {ea ua : Addr} {tl : List UInt8} {pt hm q : Nat} {F : QF} {t : QSt} {lv : Value} {H : Heap} (h : QR (qEnv S mr tb m bd B ea ua (some tl) pt hm q) F q t true lv [] H) (h5 : S.tbf = 5) (hv : ∀ x, blk S.v = some x → x < H.size) (htb : tb < H.size) (hB : B ≤ H.size) (hcur : m.cur = .pointer (some ⟨pt, 0, none⟩)) :
    Closes S mr tb m bd B ea ua (nldOf bd ++ tl) [q, F.b, F.bf, pt] H := by
  refine .inr ⟨⟨pt, 0, none⟩, hcur, h.qa.rb.ma.hm, ?_⟩
  have hq0 := lt_of_some h.hq
  have hF0 := h.qa.low
  obtain ⟨hev, hx0, hr0⟩ := h.fin rfl
  have hpr : ∀ {t : QSt} {H : Heap}, RB (qEnv S mr tb m bd B ea ua (some tl) pt hm q) t.x t.n t.total t.ev t.re t.s H → (∀ x, blk S.v = some x → x < H.size) → tb < H.size → B ≤ H.size → PR S mr tb m bd B ea ua t.s H := fun h hv htb hB =>
    ⟨h.rd, h.ma, h.er, h.bdr, fun x hx => h.low x (by simp only [qEnv] at hx ⊢; simp only [List.mem_cons] at hx ⊢; exact .inr hx), h.hE, h5, hv, htb, hB⟩
  have hPR := hpr h.qa.rb hv htb hB
  apply s92
  simp only [c92, Q6]
  apply s108
  simp only [c108, New]
  have f1 : Frm [] H (H.push (.cells (Array.replicate 512 (.int .u8 0)) 212 (0, 0))) := Frm.push _ _ _
  have hd := push_same H (.cells (Array.replicate 512 (.int .u8 0)) 212 (0, 0))
  have z1 : (H.push (.cells (Array.replicate 512 (.int .u8 0)) 212 (0, 0))).size = H.size + 1 := by simp
  generalize H.push (.cells (Array.replicate 512 (.int .u8 0)) 212 (0, 0)) = H1 at *
  have h1 : QR (qEnv S mr tb m bd B ea ua (some tl) pt hm q) F q t true lv [] H1 := ⟨h.qa.frm f1 (by simp), f1.get h.hq (by simp), h.lb.frm f1 (by simp), h.lr, h.one, h.fin, h.dq⟩
  refine ⟨fun n vs H2 => H2 = H1, ⟨0, rfl⟩, ?_⟩
  rintro n vs H1 rfl
  have e1 : arrSliceV 512 1 (.pointer (some ⟨H.size, 0, none⟩)) none none none = some (.slice (some ⟨H.size, 0, none⟩) 512 512) := by simp [arrSliceV, boundsV, boundV, Addr.add]
  simp only [e1, Q0, Q1, Q2, Q3, Q4, Q5, Q6, Q7, Q8, Q9, Qa, Qb, Qc, Qd, Qe, Qf, Qg, Qh, Qi, Qj, nilV_method (ahead116 _)]
  refine invoke_of 213 meth116 body213 ?_
  have hlow : ∀ x ∈ pt :: mr :: tb :: S.ids, x < H.size := fun x hx => by
    rcases List.mem_cons.1 hx with rfl | hx
    · exact lt_of_some h.qa.rb.hp
    · exact hPR.lt x hx
  refine (pReadQ_ok (e := qEnv S mr tb m bd B ea ua (some tl) pt hm q) (D := []) (dn := 512) (dc := 512) rfl h1 ⟨[], [], .nil, rfl, fun _ => ⟨hr0, rfl⟩, by simp⟩ hd (by simp) (Nat.le_refl _) (by omega) ⟨by omega, by omega, by omega, hB, fun hm => by have := hlow _ hm; omega, fun hm => by have := hv _ hm; omega⟩).mono ?_
  rintro x H2 ⟨k, eo, t2, rerr2, lv2, ln2, rfl, hk1, hk2, h2, _, hd2, f2, g1, g2⟩
  have hk0 : k = 0 := by simpa using hk2
  subst hk0
  have heo : eo = true := by
    cases eo with
    | true => rfl
    | false => have := g2 rfl; omega
  subst heo
  obtain ⟨hre, _, _⟩ := g1 rfl
  subst hre
  obtain ⟨hev2, hx2, _⟩ := h2.fin rfl
  simp only [Q0, Q1, Q2, Q3, Q4, Q5, Q6, Q7, Q8, Q9, Qa, Qb, Qc, Qd, Qe, Qf, Qg, Qh, Qi, Qj, neq_qer]
  have hr2 : t2.s.rest S = nldOf bd ++ tl := by
    have h3 := h2.qa.rb.rest
    rw [hx2] at h3
    simpa [qEnv, REnv.tail] using h3
  have hs2 := f2.size
  refine ⟨t2.s, hpr h2.qa.rb (fun x hx => by have := hv x hx; omega) (by omega) (by omega), hr2, (f1.mono (by simp)).up f2 (fun x hx => ?_)⟩
  simp only [QF.ids, List.mem_cons] at hx
  rcases hx with rfl | rfl | rfl | rfl | rfl | hx
  · exact .inr (Nat.le_refl _)
  · exact .inl (by simp)
  · exact .inl (by simp)
  · exact .inl (by simp)
  · exact .inl (by simp [qEnv])
  · exact .inl (by simp only [List.mem_append]; exact .inr hx)
end Go.Cps
namespace Go.Cps
open Go Go.Proofs
set_option maxRecDepth 100000
def c41 (a0 : Value) (H : Heap) (R : Value → Heap → Prop) : Prop :=
  Loop [(.int .i64 0)] H fun K1 vs2 H =>
  Get (lenStrV a0) fun x6 =>
  Get (arithV .lss .i64 (nth vs2 0) x6) fun x7 =>
  Br x7 (
  Join (fun K3 =>
  Get (strIndexV a0 (nth vs2 0)) fun x12 =>
  Get (arithV .lss .u8 x12 (.int .u8 32)) fun x13 =>
  Br x13 (
  Get (pickV (.bool true) (.bool true) undef) fun x19 =>
  K3 [x19] H) (
  Get (strIndexV a0 (nth vs2 0)) fun x17 =>
  Get (arithV .gtr .u8 x17 (.int .u8 126)) fun x18 =>
  Get (pickV (.bool false) (.bool true) x18) fun x19_1 =>
  K3 [x19_1] H)) fun vs4 H =>
  Br (nth vs4 0) (
  R (.bool false) H) (
  Get (arithV .add .i64 (nth vs2 0) (.int .i64 1)) fun x9 =>
  K1 [x9] H)) (
  R (.bool true) H)
def p41 : Plan := .seq (.leaf []) (.seq (.seq (.leaf []) (.block (.loop [3] (.seq (.seq (.leaf []) (.cond (.leaf []) (.leaf []))) (.seq (.block (.join [19] (.leaf []) (.cond (.seq (.leaf []) (.leaf [])) (.leaf [])))) (.leaf [])))))) (.seq (.leaf []) (.leaf [])))
theorem s41 {a0 : Value} {H : Heap} {R : Value → Heap → Prop} (h : c41 a0 H R) : CallsH Tryz.prog 41 #[a0] H R :=
  callsH_of_eq p41 (fn := Tryz.f41) (c := Tryz.f41.body.getD .skip) (args := [a0]) Tryz.func41 (by kernel_rfl) mixed (by kernel_rfl) (by kernel_rfl) (by kernel_rfl) h
def c42 (a0 a1 : Value) (H : Heap) (R : Value → Heap → Prop) : Prop :=
  Loop [(.int .i64 0)] H fun K1 vs2 H =>
  Get (lenV a1) fun x8 =>
  Get (arithV .add .i64 (nth vs2 0) x8) fun x9 =>
  Get (lenV a0) fun x11 =>
  Get (arithV .leq .i64 x9 x11) fun x12 =>
  Br x12 (
  Get (sliceV 1 a0 (some (nth vs2 0)) none none) fun x17 =>
  CallsH Tryz.prog 58 #[x17, a1] H fun x19 H =>
  Br x19 (
  R (nth vs2 0) H) (
  Get (arithV .add .i64 (nth vs2 0) (.int .i64 1)) fun x14 =>
  K1 [x14] H)) (
  R (.int .i64 (-1)) H)
def p42 : Plan := .seq (.leaf []) (.seq (.seq (.leaf []) (.block (.loop [5] (.seq (.seq (.leaf []) (.cond (.leaf []) (.leaf []))) (.seq (.block (.seq (.leaf []) (.cond (.seq (.leaf []) (.leaf [])) (.leaf [])))) (.leaf [])))))) (.seq (.leaf []) (.leaf [])))
theorem s42 {a0 a1 : Value} {H : Heap} {R : Value → Heap → Prop} (h : c42 a0 a1 H R) : CallsH Tryz.prog 42 #[a0, a1] H R :=
  callsH_of_eq p42 (fn := Tryz.f42) (c := Tryz.f42.body.getD .skip) (args := [a0, a1]) Tryz.func42 (by kernel_rfl) mixed (by kernel_rfl) (by kernel_rfl) (by kernel_rfl) h
def c25 (a0 a1 : Value) (H : Heap) (R : Value → Heap → Prop) : Prop :=
  Get (strV .add (.string ⟨#[45, 45]⟩) a1) fun x7 =>
  ToBytes 5 x7 H fun x8 H =>
  Join (fun K1 =>
  CallsH Tryz.prog 58 #[a0, x8] H fun x11 H =>
  Get (unV .not x11) fun x12 =>
  Br x12 (
  Get (Instr.fill (fun j => some (j * 1, 1)) ((Array.range (1 * 1)).map ((#[(.int .u8 0)] : Array Value)[· % 1]!)) [(0, (.int .u8 10))]) fun cs => NewSl cs 5 1 H fun x15 H =>
  Append 5 1 1 #[(.int .u8 0)] x15 x8 H fun x17 H =>
  CallsH Tryz.prog 42 #[a0, x17] H fun x18 H =>
  Get (arithV .lss .i64 x18 (.int .i64 0)) fun x19 =>
  Get (pickV (.bool true) x19 (.bool false)) fun x20 =>
  K1 [x20] H) (
  Get (pickV (.bool false) undef (.bool false)) fun x20_1 =>
  K1 [x20_1] H)) fun vs2 H =>
  R (nth vs2 0) H
def p25 : Plan := .seq (.leaf []) (.seq (.leaf []) (.join [4] (.leaf []) (.leaf [])))
theorem s25 {a0 a1 : Value} {H : Heap} {R : Value → Heap → Prop} (h : c25 a0 a1 H R) : CallsH Tryz.prog 25 #[a0, a1] H R :=
  callsH_of_eq p25 (fn := Tryz.f25) (c := Tryz.f25.body.getD .skip) (args := [a0, a1]) Tryz.func25 (by kernel_rfl) mixed (by kernel_rfl) (by kernel_rfl) (by kernel_rfl) h
def c15 (a0 a1 : Value) (H : Heap) (R : Value → Heap → Prop) : Prop :=
  CallsH Tryz.prog 45 #[a0, a1, (.func (.func 46) #[] #[])] H fun x7 H =>
  R x7 H
def p15 : Plan := .seq (.leaf []) (.seq (.leaf []) (.leaf []))
theorem s15 {a0 a1 : Value} {H : Heap} {R : Value → Heap → Prop} (h : c15 a0 a1 H R) : CallsH Tryz.prog 15 #[a0, a1] H R :=
  callsH_of_eq p15 (fn := Tryz.f15) (c := Tryz.f15.body.getD .skip) (args := [a0, a1]) Tryz.func15 (by kernel_rfl) mixed (by kernel_rfl) (by kernel_rfl) (by kernel_rfl) h
def c45 (a0 a1 a2 : Value) (H : Heap) (R : Value → Heap → Prop) : Prop :=
  Get (lenV a0) fun x11 =>
  Get (lenV a1) fun x13 =>
  Get (arithV .neq .i64 x11 x13) fun x14 =>
  Br x14 (
  R (.bool false) H) (
  Get (lenV a0) fun x16 =>
  Loop [(.int .i64 0)] H fun K1 vs2 H =>
  Get (arithV .lss .i64 (nth vs2 0) x16) fun x18 =>
  Br x18 (
  Get (elemAddrV 2 a0 (nth vs2 0)) fun x20 =>
  Get (loadNV 2 x20 H) fun x21 =>
  New (.cells #[(.slice none 0 0), (.slice none 0 0)] 39 (0, 0)) H fun x8 H =>
  Get (storeNV 2 x8 x21 H) fun H =>
  Get (elemAddrV 2 a1 (nth vs2 0)) fun x24 =>
  Get (loadNV 2 x24 H) fun x25 =>
  New (.cells #[(.slice none 0 0), (.slice none 0 0)] 39 (0, 0)) H fun x9 H =>
  Get (storeNV 2 x9 x25 H) fun H =>
  Get (loadNV 2 x8 H) fun x27 =>
  Get (loadNV 2 x9 H) fun x28 =>
  CallV Tryz.prog a2 #[x27, x28] H fun x29 H =>
  Get (unV .not x29) fun x30 =>
  Br x30 (
  R (.bool false) H) (
  Get (arithV .add .i64 (nth vs2 0) (.int .i64 1)) fun x31 =>
  K1 [x31] H)) (
  R (.bool true) H))
def p45 : Plan := .seq (.leaf []) (.seq (.seq (.leaf []) (.cond (.seq (.leaf []) (.leaf [])) (.leaf []))) (.seq (.seq (.leaf []) (.block (.loop [17] (.seq (.leaf []) (.seq (.cond (.leaf []) (.leaf [])) (.seq (.block (.seq (.leaf []) (.seq (.leaf []) (.seq (.leaf []) (.cond (.seq (.leaf []) (.leaf [])) (.leaf [])))))) (.leaf []))))))) (.seq (.leaf []) (.leaf []))))
theorem s45 {a0 a1 a2 : Value} {H : Heap} {R : Value → Heap → Prop} (h : c45 a0 a1 a2 H R) : CallsH Tryz.prog 45 #[a0, a1, a2] H R :=
  callsH_of_eq p45 (fn := Tryz.f45) (c := Tryz.f45.body.getD .skip) (args := [a0, a1, a2]) Tryz.func45 (by kernel_rfl) mixed (by kernel_rfl) (by kernel_rfl) (by kernel_rfl) h
def c46 (a0 a1 : Value) (H : Heap) (R : Value → Heap → Prop) : Prop :=
  New (.cells (Value.cells a0) 39 (0, 0)) H fun x2 H =>
  New (.cells (Value.cells a1) 39 (0, 0)) H fun x3 H =>
  Join (fun K1 =>
  Get (fieldAddrV 0 x2) fun x5 =>
  Get (load1V x5 H) fun x6 =>
  Get (fieldAddrV 0 x3) fun x7 =>
  Get (load1V x7 H) fun x8 =>
  CallsH Tryz.prog 21 #[x6, x8] H fun x9 H =>
  Br x9 (
  Get (fieldAddrV 1 x2) fun x11 =>
  Get (load1V x11 H) fun x12 =>
  Get (bytesV x12 H) fun x13 =>
  Get (fieldAddrV 1 x3) fun x14 =>
  Get (load1V x14 H) fun x15 =>
  Get (bytesV x15 H) fun x16 =>
  Get (strV .eql x13 x16) fun x17 =>
  Get (pickV (.bool true) x17 (.bool false)) fun x18 =>
  K1 [x18] H) (
  Get (pickV (.bool false) undef (.bool false)) fun x18_1 =>
  K1 [x18_1] H)) fun vs2 H =>
  R (nth vs2 0) H
def p46 : Plan := .seq (.leaf []) (.join [4] (.leaf []) (.leaf []))
theorem s46 {a0 a1 : Value} {H : Heap} {R : Value → Heap → Prop} (h : c46 a0 a1 H R) : CallsH Tryz.prog 46 #[a0, a1] H R :=
  callsH_of_eq p46 (fn := Tryz.f46) (c := Tryz.f46.body.getD .skip) (args := [a0, a1]) Tryz.func46 (by kernel_rfl) mixed (by kernel_rfl) (by kernel_rfl) (by kernel_rfl) h
def c21 (a0 a1 : Value) (H : Heap) (R : Value → Heap → Prop) : Prop :=
  CallsH Tryz.prog 51 #[a0, a1, (.func (.func 52) #[] #[])] H fun x7 H =>
  R x7 H
def p21 : Plan := .seq (.leaf []) (.seq (.leaf []) (.leaf []))
theorem s21 {a0 a1 : Value} {H : Heap} {R : Value → Heap → Prop} (h : c21 a0 a1 H R) : CallsH Tryz.prog 21 #[a0, a1] H R :=
  callsH_of_eq p21 (fn := Tryz.f21) (c := Tryz.f21.body.getD .skip) (args := [a0, a1]) Tryz.func21 (by kernel_rfl) mixed (by kernel_rfl) (by kernel_rfl) (by kernel_rfl) h
def c51 (a0 a1 a2 : Value) (H : Heap) (R : Value → Heap → Prop) : Prop :=
  Get (lenV a0) fun x11 =>
  Get (lenV a1) fun x13 =>
  Get (arithV .neq .i64 x11 x13) fun x14 =>
  Br x14 (
  R (.bool false) H) (
  Get (lenV a0) fun x16 =>
  Loop [(.int .i64 0)] H fun K1 vs2 H =>
  Get (arithV .lss .i64 (nth vs2 0) x16) fun x18 =>
  Br x18 (
  Get (elemAddrV 2 a0 (nth vs2 0)) fun x20 =>
  Get (loadNV 2 x20 H) fun x21 =>
  New (.cells #[(.string ⟨#[]⟩), (.slice none 0 0)] 90 (0, 0)) H fun x8 H =>
  Get (storeNV 2 x8 x21 H) fun H =>
  Get (elemAddrV 2 a1 (nth vs2 0)) fun x24 =>
  Get (loadNV 2 x24 H) fun x25 =>
  New (.cells #[(.string ⟨#[]⟩), (.slice none 0 0)] 90 (0, 0)) H fun x9 H =>
  Get (storeNV 2 x9 x25 H) fun H =>
  Get (loadNV 2 x8 H) fun x27 =>
  Get (loadNV 2 x9 H) fun x28 =>
  CallV Tryz.prog a2 #[x27, x28] H fun x29 H =>
  Get (unV .not x29) fun x30 =>
  Br x30 (
  R (.bool false) H) (
  Get (arithV .add .i64 (nth vs2 0) (.int .i64 1)) fun x31 =>
  K1 [x31] H)) (
  R (.bool true) H))
def p51 : Plan := .seq (.leaf []) (.seq (.seq (.leaf []) (.cond (.seq (.leaf []) (.leaf [])) (.leaf []))) (.seq (.seq (.leaf []) (.block (.loop [17] (.seq (.leaf []) (.seq (.cond (.leaf []) (.leaf [])) (.seq (.block (.seq (.leaf []) (.seq (.leaf []) (.seq (.leaf []) (.cond (.seq (.leaf []) (.leaf [])) (.leaf [])))))) (.leaf []))))))) (.seq (.leaf []) (.leaf []))))
theorem s51 {a0 a1 a2 : Value} {H : Heap} {R : Value → Heap → Prop} (h : c51 a0 a1 a2 H R) : CallsH Tryz.prog 51 #[a0, a1, a2] H R :=
  callsH_of_eq p51 (fn := Tryz.f51) (c := Tryz.f51.body.getD .skip) (args := [a0, a1, a2]) Tryz.func51 (by kernel_rfl) mixed (by kernel_rfl) (by kernel_rfl) (by kernel_rfl) h
def c52 (a0 a1 : Value) (H : Heap) (R : Value → Heap → Prop) : Prop :=
  New (.cells (Value.cells a0) 90 (0, 0)) H fun x2 H =>
  New (.cells (Value.cells a1) 90 (0, 0)) H fun x3 H =>
  Join (fun K1 =>
  Get (fieldAddrV 0 x2) fun x5 =>
  Get (load1V x5 H) fun x6 =>
  Get (fieldAddrV 0 x3) fun x7 =>
  Get (load1V x7 H) fun x8 =>
  Get (strV .eql x6 x8) fun x9 =>
  Br x9 (
  Get (fieldAddrV 1 x2) fun x11 =>
  Get (load1V x11 H) fun x12 =>
  Get (fieldAddrV 1 x3) fun x13 =>
  Get (load1V x13 H) fun x14 =>
  CallsH Tryz.prog 53 #[x12, x14] H fun x15 H =>
  Get (pickV (.bool true) x15 (.bool false)) fun x16 =>
  K1 [x16] H) (
  Get (pickV (.bool false) undef (.bool false)) fun x16_1 =>
  K1 [x16_1] H)) fun vs2 H =>
  R (nth vs2 0) H
def p52 : Plan := .seq (.leaf []) (.join [4] (.leaf []) (.leaf []))
theorem s52 {a0 a1 : Value} {H : Heap} {R : Value → Heap → Prop} (h : c52 a0 a1 H R) : CallsH Tryz.prog 52 #[a0, a1] H R :=
  callsH_of_eq p52 (fn := Tryz.f52) (c := Tryz.f52.body.getD .skip) (args := [a0, a1]) Tryz.func52 (by kernel_rfl) mixed (by kernel_rfl) (by kernel_rfl) (by kernel_rfl) h
def c53 (a0 a1 : Value) (H : Heap) (R : Value → Heap → Prop) : Prop :=
  Get (lenV a0) fun x7 =>
  Get (lenV a1) fun x9 =>
  Get (arithV .neq .i64 x7 x9) fun x10 =>
  Br x10 (
  R (.bool false) H) (
  Get (lenV a0) fun x12 =>
  Loop [(.int .i64 0)] H fun K1 vs2 H =>
  Get (arithV .lss .i64 (nth vs2 0) x12) fun x14 =>
  Br x14 (
  Get (elemAddrV 1 a0 (nth vs2 0)) fun x18 =>
  Get (load1V x18 H) fun x19 =>
  Get (elemAddrV 1 a1 (nth vs2 0)) fun x22 =>
  Get (load1V x22 H) fun x23 =>
  Get (strV .neq x19 x23) fun x24 =>
  Br x24 (
  R (.bool false) H) (
  Get (arithV .add .i64 (nth vs2 0) (.int .i64 1)) fun x25 =>
  K1 [x25] H)) (
  R (.bool true) H))
def p53 : Plan := .seq (.leaf []) (.seq (.seq (.leaf []) (.cond (.seq (.leaf []) (.leaf [])) (.leaf []))) (.seq (.seq (.leaf []) (.block (.loop [13] (.seq (.leaf []) (.seq (.cond (.leaf []) (.leaf [])) (.seq (.block (.seq (.leaf []) (.seq (.leaf [0, 1, 2, 3, 4, 5, 6, 7, 8]) (.cond (.seq (.leaf []) (.leaf [])) (.leaf []))))) (.leaf []))))))) (.seq (.leaf []) (.leaf []))))
theorem s53 {a0 a1 : Value} {H : Heap} {R : Value → Heap → Prop} (h : c53 a0 a1 H R) : CallsH Tryz.prog 53 #[a0, a1] H R :=
  callsH_of_eq p53 (fn := Tryz.f53) (c := Tryz.f53.body.getD .skip) (args := [a0, a1]) Tryz.func53 (by kernel_rfl) mixed (by kernel_rfl) (by kernel_rfl) (by kernel_rfl) h
def c4 (a0 a1 : Value) (H : Heap) (R : Value → Heap → Prop) : Prop :=
  Join (fun K1 =>
  CallsH Tryz.prog 12 #[a0] H fun x8 H =>
  Get (unV .not x8) fun x9 =>
  Br x9 (
  Get (pickV (.bool true) (.bool true) undef) fun x14 =>
  K1 [x14] H) (
  Get (lenStrV a1) fun x12 =>
  Get (arithV .gtr .i64 x12 (.int .i64 2147483647)) fun x13 =>
  Get (pickV (.bool false) (.bool true) x13) fun x14_1 =>
  K1 [x14_1] H)) fun vs2 H =>
  Br (nth vs2 0) (
  R (.bool true) H) (
  Get (lenStrV a1) fun x16 =>
  Get (arithV .gtr .i64 x16 (.int .i64 16777216)) fun x17 =>
  Br x17 (
  R (.bool true) H) (
  CallsH Tryz.prog 13 #[a0, a1] H fun x20 H =>
  Get (unV .not x20) fun x21 =>
  Br x21 (
  R (.bool true) H) (
  CallsH Tryz.prog 14 #[a1, a0] H fun x25 H =>
  CallsH Tryz.prog 11 #[x25, a1] H fun x27 H =>
  Get (extractV x27 0) fun x28 =>
  Get (extractV x27 1) fun x29 =>
  Join (fun K3 =>
  Get (arithV .eql .i64 x29 (.int .i64 1)) fun x31 =>
  Br x31 (
  CallsH Tryz.prog 16 #[a0] H fun x35 H =>
  CallsH Tryz.prog 15 #[x28, x35] H fun x36 H =>
  Get (pickV (.bool true) x36 (.bool false)) fun x37 =>
  K3 [x37] H) (
  Get (pickV (.bool false) undef (.bool false)) fun x37_1 =>
  K3 [x37_1] H)) fun vs4 H =>
  R (nth vs4 0) H)))
def p4 : Plan := .seq (.leaf []) (.seq (.join [14] (.leaf []) (.cond (.seq (.leaf []) (.leaf [])) (.leaf []))) (.seq (.seq (.leaf []) (.cond (.seq (.leaf []) (.leaf [])) (.leaf []))) (.seq (.seq (.leaf []) (.cond (.seq (.leaf []) (.leaf [])) (.leaf []))) (.seq (.leaf []) (.join [4] (.leaf []) (.leaf []))))))
theorem s4 {a0 a1 : Value} {H : Heap} {R : Value → Heap → Prop} (h : c4 a0 a1 H R) : CallsH Tryz.prog 4 #[a0, a1] H R :=
  callsH_of_eq p4 (fn := Tryz.f4) (c := Tryz.f4.body.getD .skip) (args := [a0, a1]) Tryz.func4 (by kernel_rfl) mixed (by kernel_rfl) (by kernel_rfl) (by kernel_rfl) h
end Go.Cps
