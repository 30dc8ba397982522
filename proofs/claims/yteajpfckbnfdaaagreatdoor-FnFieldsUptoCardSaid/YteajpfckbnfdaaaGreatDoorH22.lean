/-
  A part of the proof: CreatePart of a Writer: the delimiter, the lines of the header in the order of the keys. CreatePart of a Writer. CanonicalMIMEHeaderKey of a canonical key; MIMEHeader.Set; CreateFormField, CreateFormFile, WriteField. CreateFormField, CreateFormFile, WriteField of a Writer. Closing a raw part that has been read whole; the part's environment when its reader names it.
  Conditions: each contract's own.
-/
import Derived.Test.YteajpfckbnfdaaaGreatDoorH18
import Derived.Test.YteajpfckbnfdaaaGreatDoorH20
import Derived.Test.YteajpfckbnfdaaaGreatDoorH21
set_option linter.all false
namespace Go.Cps
open Go Go.Proofs
def linesOf (hs : List Hdr) : List (List UInt8 × List UInt8) := hs.flatMap fun p => p.2.map fun v => (p.1, v)
def headText (hs : List Hdr) : List UInt8 := linesText (linesOf hs) ++ [13, 10]
theorem linesText_append (a b : List (List UInt8 × List UInt8)) : linesText (a ++ b) = linesText a ++ linesText b := by simp [linesText]
def BW (HB : Heap) (X : List Nat) (b : Nat) (t : List UInt8) (H : Heap) : Prop := ∃ k, BufAt b k t H ∧ Frm X HB H ∧ (b ∈ X ∨ HB.size ≤ b) ∧ ∀ g, k = some g → g ∈ X ∨ HB.size ≤ g
theorem bwString_ok {HB H : Heap} {X : List Nat} {b : Nat} {t d : List UInt8} (h : BW HB X b t H) (hl : t.length + d.length < 2 ^ 40) : CallsH Tryz.prog 54 #[.pointer (some ⟨b, 0, none⟩), strVal d] H fun _ H' => BW HB X b (t ++ d) H' := by
  obtain ⟨k, h1, h2, h3, h4⟩ := h
  refine (bufWriteString_ok h1 hl).mono ?_
  rintro x H' ⟨_, k', hb, f, hk⟩
  refine ⟨k', hb, h2.up f (fun x hx => ?_), h3, fun g hg => ?_⟩
  · rcases List.mem_cons.1 hx with rfl | hx
    · exact h3
    · exact h4 x (by simpa using hx)
  · rcases hk with e | ⟨g', e, hge⟩
    · exact h4 g (by rw [← e, hg])
    · rw [hg] at e; cases e
      have := h2.size
      exact .inr (by omega)
theorem getE_of {P : List (List UInt8 × Value)} (hnd : (P.map (·.1)).Nodup) {e : List UInt8 × Value} (he : e ∈ P) : getE e.1 P = some e.2 := by
  induction P with
  | nil => cases he
  | cons x r ih =>
    rw [List.map_cons, List.nodup_cons] at hnd
    simp only [getE]
    rcases List.mem_cons.1 he with rfl | he
    · rw [if_pos rfl]
    · have hne : ¬ x.1 = e.1 := fun e2 => hnd.1 (List.mem_map.2 ⟨e, he, e2.symm⟩)
      rw [if_neg hne]
      exact ih hnd.2 he
abbrev GEnt := Hdr × Value
def GEnt.pair (g : GEnt) : List UInt8 × Value := (g.1.1, g.2)
structure EntsG (D : List Nat) (H : Heap) (m : Nat) (G : List GEnt) : Prop where
  map : MapAt H m (G.map GEnt.pair)
  md : m ∉ D ∧ m < H.size
  strs : ∀ g ∈ G, StrsV D H g.2 g.1.2
theorem EntsG.frm {D X : List Nat} {H H' : Heap} {m : Nat} {G : List GEnt} (h : EntsG D H m G) (f : Frm X H H') (hX : ∀ x ∈ X, x ∈ D ∨ H.size ≤ x) : EntsG D H' m G :=
  ⟨h.map.frm f (fun hm => by
    rcases hX m hm with h1 | h1
    · exact h.md.1 h1
    · have := h.md.2; omega), ⟨h.md.1, Nat.lt_of_lt_of_le h.md.2 f.size⟩, fun g hg => (h.strs g hg).frm Qy f hX⟩
theorem EntsG.apart {D X : List Nat} {H : Heap} {m : Nat} {G : List GEnt} (h : EntsG D H m G) (hX : ∀ x ∈ X, H.size ≤ x) : EntsG X H m G :=
  ⟨h.map, ⟨fun hm => by have := hX m hm; have := h.md.2; omega, h.md.2⟩, fun g hg => by
    rcases h.strs g hg with ⟨b, o, c, e, h1, h2, h3, h4⟩ | h0
    · exact .inl ⟨b, o, c, e, h1, fun hm => by have := hX b hm; omega, h3, h4⟩
    · exact .inr h0⟩
theorem Ents.toG {D : List Nat} {H : Heap} {m N : Nat} {E : List Ent} (h : Ents H m N E) (hD : ∀ x ∈ Ents.blks m E, x ∉ D) : EntsG D H m (E.map fun e => (e.hd, e.pair.2)) where
  map := by
    have := h.map
    rw [List.map_map]
    exact this
  md := ⟨hD m (by simp [Ents.blks]), h.lt m (by simp [Ents.blks])⟩
  strs := fun g hg => by
    obtain ⟨e, he, rfl⟩ := List.mem_map.1 hg
    have hb : e.b ∈ Ents.blks m E := by simp only [Ents.blks, List.mem_cons, List.mem_map]; exact .inr ⟨e, he, rfl⟩
    exact (h.strs e he).strsV (hD e.b hb)
theorem linesOf_append (a b : List Hdr) : linesOf (a ++ b) = linesOf a ++ linesOf b := by simp [linesOf]
theorem linesOf_cons (p : Hdr) (r : List Hdr) : linesOf (p :: r) = (p.2.map fun v => (p.1, v)) ++ linesOf r := rfl
theorem linesOf_at (hs : List Hdr) (i : Nat) (hi : i < hs.length) : linesOf hs = linesOf (hs.take i) ++ ((hs[i].2.map fun v => (hs[i].1, v)) ++ linesOf (hs.drop (i + 1))) := by
  have h1 : hs.take i ++ hs[i] :: hs.drop (i + 1) = hs := by rw [← List.drop_eq_getElem_cons hi, List.take_append_drop]
  have h2 := linesOf_append (hs.take i) (hs[i] :: hs.drop (i + 1))
  rw [h1, linesOf_cons] at h2
  exact h2
theorem lines_prefix (hs : List Hdr) (i j : Nat) (hi : i < hs.length) (hj : j < hs[i].2.length) :
    (linesText (linesOf (hs.take i)) ++ linesText ((hs[i].2.take j).map fun v => (hs[i].1, v))).length + (lineOf (hs[i].1, hs[i].2[j]) ++ [13, 10]).length ≤ (linesText (linesOf hs)).length := by
  have h2 : hs[i].2.take j ++ hs[i].2[j] :: hs[i].2.drop (j + 1) = hs[i].2 := by rw [← List.drop_eq_getElem_cons hj, List.take_append_drop]
  have h4 := congrArg (fun l => l.map fun v => (hs[i].1, v)) h2
  simp only [List.map_append, List.map_cons] at h4
  rw [linesOf_at hs i hi, ← h4]
  simp only [linesText_append, List.length_append]
  simp only [linesText, List.flatMap_cons, List.length_append]
  omega
theorem lines_succ (hs : List Hdr) (i : Nat) (hi : i < hs.length) : linesText (linesOf (hs.take (i + 1))) = linesText (linesOf (hs.take i)) ++ linesText (hs[i].2.map fun v => (hs[i].1, v)) := by
  rw [List.take_succ_eq_append_getElem hi, linesOf_append, linesText_append]
  simp [linesOf]
theorem keysLoop_ok {HB H : Heap} {X : List Nat} {b m : Nat} {G : List GEnt} {hs : List Hdr} {v : Value} {pre : List UInt8} {K : Heap → Prop} (hE : EntsG X HB m G) (hp : (G.map (·.1)).Perm hs) (hnd : (G.map (·.1.1)).Nodup) (hv : StrsV X HB v (hs.map (·.1))) (hb : BW HB X b pre H) (hn : hs.length < 2 ^ 30) (hN : ∀ g ∈ G, g.1.2.length < 2 ^ 40)
    (hl : pre.length + (linesText (linesOf hs)).length < 2 ^ 39) (hK : ∀ H', BW HB X b (pre ++ linesText (linesOf hs)) H' → K H') :
    Get (lenV v) fun x50 =>
    Loop [(.int .i64 0)] H fun K5 vs6 H =>
    Get (arithV .lss .i64 (nth vs6 0) x50) fun x52 =>
    Br x52 (
    Get (elemAddrV 1 v (nth vs6 0)) fun x53 =>
    Get (load1V x53 H) fun x54 =>
    ExecV Tryz.prog (Instr.lookup 82 (.map (some m)) x54 false) H fun x57 H =>
    Get (lenV x57) fun x58 =>
    Loop [(.int .i64 0)] H fun K7 vs8 H =>
    Get (arithV .lss .i64 (nth vs8 0) x58) fun x60 =>
    Br x60 (
    Get (elemAddrV 1 x57 (nth vs8 0)) fun x61 =>
    Get (load1V x61 H) fun x62 =>
    Get (strV .add x54 (.string ⟨#[58, 32]⟩)) fun x64 =>
    Get (strV .add x64 x62) fun x66 =>
    Get (strV .add x66 (.string ⟨#[13, 10]⟩)) fun x67 =>
    CallsH Tryz.prog 54 #[.pointer (some ⟨b, 0, none⟩), x67] H fun _ H =>
    Get (arithV .add .i64 (nth vs8 0) (.int .i64 1)) fun x69 =>
    K7 [x69] H) (
    Get (arithV .add .i64 (nth vs6 0) (.int .i64 1)) fun x70 =>
    K5 [x70] H)) (K H) := by
  have dd : ∀ a b : Nat, decide ((a : Int) < (b : Int)) = decide (a < b) := fun a b => by simp
  simp only [hv.len, Q6, List.length_map]
  have hfr : ∀ {t H1}, BW HB X b t H1 → EntsG X H1 m G ∧ StrsV X H1 v (hs.map (·.1)) := fun {t H1} h => by
    obtain ⟨_, _, f, _⟩ := h
    exact ⟨hE.frm f (fun x hx => .inl hx), hv.frm Qy f (fun x hx => .inl hx)⟩
  refine ⟨fun μ vs H1 => ∃ i : Nat, vs = [.int .i64 i] ∧ μ = hs.length - i ∧ i ≤ hs.length ∧ BW HB X b (pre ++ linesText (linesOf (hs.take i))) H1, ⟨_, 0, rfl, rfl, Nat.zero_le _, by simpa [linesOf, linesText] using hb⟩, ?_⟩
  rintro μ vs H1 ⟨i, rfl, rfl, hi, hb1⟩
  simp only [Q0, Q1, Q2, Q3, Q4, Q5, Q6, Q7, Q8, Q9, Qa, Qb, Qc, Qd, Qe, Qf, Qg, Qh, Qi, Qj, Qk, Ql, Qm, Qn, Qo, Qp, Qq, Qr, Qs, dd]
  refine Br_intro (fun hlt => ?_) (fun hlt => ?_)
  · have hlt' : i < hs.length := by simpa using hlt
    obtain ⟨hE1, hv1⟩ := hfr hb1
    obtain ⟨a, ha, hca⟩ := strs_elem hv1 (j := i) (by simpa using hlt')
    simp only [List.getElem_map] at hca
    simp only [ha, Q0, Q1, Q2, Q3, Q4, Q5, Q6, Q7, Q8, Q9, Qa, Qb, Qc, Qd, Qe, Qf, Qg, Qh, Qi, Qj, hca]
    have hmem : hs[i] ∈ G.map (·.1) := hp.mem_iff.2 (List.getElem_mem hlt')
    obtain ⟨⟨⟨ekey, evs⟩, ev⟩, he, hehd⟩ := List.mem_map.1 hmem
    simp only at hehd
    have hek : ekey = hs[i].1 := by rw [← hehd]
    have hev : evs = hs[i].2 := by rw [← hehd]
    have hfew : evs.length < 2 ^ 40 := hN _ he
    have hget : getE ekey (G.map GEnt.pair) = some ev := getE_of (P := G.map GEnt.pair) (by rw [List.map_map]; exact hnd) (e := (ekey, ev)) (List.mem_map.2 ⟨_, he, rfl⟩)
    have hsv1 : StrsV X H1 ev evs := hE1.strs _ he
    rw [← hek, lookup_of und106 hE1.map, hget]
    simp only [Option.getD_some, hsv1.len, Q0, Q1, Q2, Q3, Q4, Q5, Q6, Q7, Q8, Q9, Qa, Qb, Qc, Qd, Qe, Qf, Qg, Qh, Qi, Qj]
    refine ⟨fun ν vs H2 => ∃ j : Nat, vs = [.int .i64 j] ∧ ν = evs.length - j ∧ j ≤ evs.length ∧ BW HB X b (pre ++ linesText (linesOf (hs.take i)) ++ linesText ((evs.take j).map fun v => (ekey, v))) H2, ⟨_, 0, rfl, rfl, Nat.zero_le _, by simpa [linesText] using hb1⟩, ?_⟩
    clear hsv1 hE1 hca ha hv1 hb1
    rintro ν vs H2 ⟨j, rfl, rfl, hj, hb2⟩
    obtain ⟨hE2, hv2⟩ := hfr hb2
    have hsv2 : StrsV X H2 ev evs := hE2.strs _ he
    simp only [Q0, Q1, Q2, Q3, Q4, Q5, Q6, Q7, Q8, Q9, Qa, Qb, Qc, Qd, Qe, Qf, Qg, Qh, Qi, Qj, Qk, Ql, Qm, Qn, Qo, Qp, Qq, Qr, Qs, dd]
    refine Br_intro (fun hlt2 => ?_) (fun hlt2 => ?_)
    · have hlt2' : j < evs.length := by simpa using hlt2
      obtain ⟨a2, ha2, hca2⟩ := strs_elem hsv2 hlt2'
      have hpl := lines_prefix hs i j hlt' (by rw [← hev]; exact hlt2')
      simp only [List.length_append, lineOf, List.length_cons, List.length_nil] at hpl
      have hgv : evs[j] = hs[i].2[j]'(by rw [← hev]; exact hlt2') := by simp only [hev]
      have e1 : strV .add (strVal ekey) (.string ⟨#[58, 32]⟩) = some (strVal (ekey ++ [58, 32])) := strV_add (a := ekey) (b := [58, 32]) (by simp; rw [hek]; omega)
      have e2 : strV .add (strVal (ekey ++ [58, 32])) (strVal evs[j]) = some (strVal (ekey ++ [58, 32] ++ evs[j])) := strV_add (by simp; rw [hek, hgv]; omega)
      have e3 : strV .add (strVal (ekey ++ [58, 32] ++ evs[j])) (.string ⟨#[13, 10]⟩) = some (strVal (ekey ++ [58, 32] ++ evs[j] ++ [13, 10])) := strV_add (b := [13, 10]) (by simp; rw [hek, hgv]; omega)
      simp only [ha2, Q0, Q1, Q2, Q3, Q4, Q5, Q6, Q7, Q8, Q9, Qa, Qb, Qc, Qd, Qe, Qf, Qg, Qh, Qi, Qj, hca2, e1, e2, e3]
      have hlen : (pre ++ linesText (linesOf (hs.take i)) ++ linesText ((evs.take j).map fun v => (ekey, v))).length + (ekey ++ [58, 32] ++ evs[j] ++ [13, 10]).length < 2 ^ 40 := by
        simp only [List.length_append, List.length_cons, List.length_nil]
        rw [hgv]
        simp only [hek, hev]
        omega
      refine (bwString_ok hb2 hlen).mono ?_
      rintro x H3 hb3
      have e4 : IntKind.i64.wrap ((j : Int) + 1) = ((j + 1 : Nat) : Int) := by rw [wrap_i64 (by omega) (by omega)]; omega
      simp only [Qk, Ql, Qm, Qn, Qo, Qp, Qq, Qr, Qs, Q0, Q1, Q2, Q3, Q4, Q5, Q6, Q7, Q8, Q9, Qa, Qb, Qc, Qd, Qe, Qf, Qg, Qh, Qi, Qj, e4]
      refine ⟨_, by omega, j + 1, rfl, rfl, hlt2', ?_⟩
      have e5 : linesText ((evs.take (j + 1)).map fun v => (ekey, v)) = linesText ((evs.take j).map fun v => (ekey, v)) ++ (ekey ++ [58, 32] ++ evs[j] ++ [13, 10]) := by
        rw [List.take_succ_eq_append_getElem hlt2', List.map_append, linesText_append]
        simp [linesText, lineOf]
      rw [e5, ← List.append_assoc]
      exact hb3
    · have hjl : j = evs.length := by simp at hlt2; omega
      subst hjl
      rw [List.take_length] at hb2
      have e4 : IntKind.i64.wrap ((i : Int) + 1) = ((i + 1 : Nat) : Int) := by rw [wrap_i64 (by omega) (by omega)]; omega
      simp only [Qk, Ql, Qm, Qn, Qo, Qp, Qq, Qr, Qs, Q0, Q1, Q2, Q3, Q4, Q5, Q6, Q7, Q8, Q9, Qa, Qb, Qc, Qd, Qe, Qf, Qg, Qh, Qi, Qj, e4]
      refine ⟨_, by omega, i + 1, rfl, rfl, hlt', ?_⟩
      rw [lines_succ hs i hlt', ← List.append_assoc, ← hek, ← hev]
      exact hb2
  · have : i = hs.length := by simp at hlt; omega
    subst this
    rw [List.take_length] at hb1
    exact hK H1 hb1
end Go.Cps
namespace Go.Cps
open Go Go.Proofs
def delimText (last : Option Nat) (bd : List UInt8) : List UInt8 := match last with
  | none => [45, 45] ++ bd ++ [13, 10]
  | some _ => [13, 10, 45, 45] ++ bd ++ [13, 10]
theorem createPartG_ok {B ob wr m : Nat} {bd l : List UInt8} {k last : Option Nat} {H : Heap} {G : List GEnt} {D : List Nat} {hs : List Hdr} (h : WS B ob wr bd k last l H) (hB : B ≤ H.size) (hE : EntsG D H m G) (hEx : ∀ x ∈ WS.ids ob wr k last, x ∈ D) (hp : (G.map (·.1)).Perm hs) (hs' : (hs.map (·.1)).Pairwise (· < ·))
    (hkl : ∀ g ∈ G, g.1.1.length < 2 ^ 40) (hn : hs.length < 2 ^ 30) (hN : ∀ g ∈ G, g.1.2.length < 2 ^ 40) (hl : l.length + bd.length + (headText hs).length + 100 < 2 ^ 39) :
    CallsH Tryz.prog 41 #[.pointer (some ⟨wr, 0, none⟩), .map (some m)] H fun x H' => ∃ p k', x = .tuple #[.iface 87 (.pointer (some ⟨p, 0, none⟩)), .nilIface] ∧ WS B ob wr bd k' (some p) (l ++ (delimText last bd ++ headText hs)) H' ∧ Frm (WS.ids ob wr k last) H H' ∧ H.size ≤ p ∧ (k' = k ∨ ∃ g, k' = some g ∧ H.size ≤ g) := by
  obtain ⟨n1, n2, n3, n4⟩ := h.ne
  have hlt := h.lt
  have hkeys : ((G.map GEnt.pair).map (·.1)).Perm (hs.map (·.1)) := by
    have := hp.map (·.1)
    rw [List.map_map] at this ⊢
    exact this
  have hnd0 : ((G.map GEnt.pair).map (·.1)).Nodup := hkeys.symm.nodup (hs'.imp fun h e => by rw [e] at h; exact List.lt_irrefl _ h)
  have hnd : (G.map (·.1.1)).Nodup := by rw [List.map_map] at hnd0; exact hnd0
  have hEn : (G.map GEnt.pair).length < 2 ^ 30 := by have := hp.length_eq; simp at this ⊢; omega
  have hkl' : ∀ e ∈ G.map GEnt.pair, e.1.length < 2 ^ 40 := fun e he => by
    obtain ⟨g, hg, rfl⟩ := List.mem_map.1 he
    exact hkl g hg
  have hhl : (headText hs).length = (linesText (linesOf hs)).length + 2 := by simp [headText]
  apply s32
  unfold c32
  refine ⟨fun _ H1 => BufAt ob k l H1 ∧ WrAt wr (.iface 56 (.pointer (some ⟨ob, 0, none⟩))) bd (lastP last) H1 ∧ Frm last.toList H H1 ∧ H1.size = H.size, ?_, ?_⟩
  · cases last with
    | none =>
      simp only [Q0, Q1, Q2, Q3, Q4, Q5, Q6, Q7, Q8, Q9, Qa, Qb, Qc, Qd, Qe, Qf, Qg, Qh, Qi, Qj, cellH_of h.wr_, lastP, Option.map_none, nilV2_neq_ptr, Option.isNone_none, Bool.not_true]
      exact ⟨h.buf, h.wr_, Frm.refl _ _, trivial⟩
    | some p =>
      simp only [Q0, Q1, Q2, Q3, Q4, Q5, Q6, Q7, Q8, Q9, Qa, Qb, Qc, Qd, Qe, Qf, Qg, Qh, Qi, Qj, cellH_of h.wr_, lastP, Option.map_some, nilV2_neq_ptr, Option.isNone_some, Bool.not_false]
      refine (closePart_ok h).mono ?_
      rintro x H1 ⟨rfl, hb1, hw1, f1, z1⟩
      simp only [nilV2_neq_nil, Q0, Q1, Q2, Q3, Q4, Q5, Q6, Q7, Q8, Q9, Qa, Qb, Qc, Qd, Qe, Qf, Qg, Qh, Qi, Qj]
      exact ⟨hb1, hw1, f1.mono (by simp), z1⟩
  rintro _ H1 ⟨hb1, hw1, f1, z1⟩
  simp only [New]
  have hp2 := push_same H1 (.cells #[(.slice none 0 0), (.int .i64 0), (.int .i8 0)] 53 (0, 0))
  have f2 : Frm [] H1 (H1.push (.cells #[(.slice none 0 0), (.int .i64 0), (.int .i8 0)] 53 (0, 0))) := Frm.push _ _ _
  have z2 : (H1.push (.cells #[(.slice none 0 0), (.int .i64 0), (.int .i8 0)] 53 (0, 0))).size = H1.size + 1 := by simp
  generalize H1.push (.cells #[(.slice none 0 0), (.int .i64 0), (.int .i8 0)] 53 (0, 0)) = H2 at *
  have hbuf2 : BufAt H1.size none [] H2 := ⟨_, _, hp2, rfl, rfl⟩
  have hob1 := hb1.lt
  have hwrl := lt_of_some hw1
  refine ⟨fun _ H3 => ∃ kb, BufAt H1.size kb (delimText last bd) H3 ∧ Frm [H1.size] H2 H3 ∧ ∀ g, kb = some g → H2.size ≤ g, ?_, ?_⟩
  · have hw2 : H2[wr]? = _ := f2.get hw1 (by simp)
    cases last with
    | none =>
      have e1 : strV .add (.string ⟨#[45, 45]⟩) (strVal bd) = some (strVal ([45, 45] ++ bd)) := strV_add (a := [45, 45]) (b := bd) (by simp; omega)
      have e2 : strV .add (strVal ([45, 45] ++ bd)) (.string ⟨#[13, 10]⟩) = some (strVal ([45, 45] ++ bd ++ [13, 10])) := strV_add (b := [13, 10]) (by simp; omega)
      simp only [Q0, Q1, Q2, Q3, Q4, Q5, Q6, Q7, Q8, Q9, Qa, Qb, Qc, Qd, Qe, Qf, Qg, Qh, Qi, Qj, cellH_of hw2, lastP, Option.map_none, nilV2_neq_ptr, Option.isNone_none, Bool.not_true, e1, e2]
      refine (bufWriteString_ok hbuf2 (by simp; omega)).mono ?_
      rintro x H3 ⟨_, kb, hb3, f3, hkb⟩
      refine ⟨kb, by simpa [delimText] using hb3, f3.mono (by simp), fun g hg => ?_⟩
      rcases hkb with e | ⟨g', e, hge⟩
      · rw [e] at hg; cases hg
      · rw [hg] at e; cases e; exact hge
    | some p =>
      have e1 : strV .add (.string ⟨#[13, 10, 45, 45]⟩) (strVal bd) = some (strVal ([13, 10, 45, 45] ++ bd)) := strV_add (a := [13, 10, 45, 45]) (b := bd) (by simp; omega)
      have e2 : strV .add (strVal ([13, 10, 45, 45] ++ bd)) (.string ⟨#[13, 10]⟩) = some (strVal ([13, 10, 45, 45] ++ bd ++ [13, 10])) := strV_add (b := [13, 10]) (by simp; omega)
      simp only [Q0, Q1, Q2, Q3, Q4, Q5, Q6, Q7, Q8, Q9, Qa, Qb, Qc, Qd, Qe, Qf, Qg, Qh, Qi, Qj, cellH_of hw2, lastP, Option.map_some, nilV2_neq_ptr, Option.isNone_some, Bool.not_false, e1, e2]
      refine (bufWriteString_ok hbuf2 (by simp; omega)).mono ?_
      rintro x H3 ⟨_, kb, hb3, f3, hkb⟩
      refine ⟨kb, by simpa [delimText] using hb3, f3.mono (by simp), fun g hg => ?_⟩
      rcases hkb with e | ⟨g', e, hge⟩
      · rw [e] at hg; cases hg
      · rw [hg] at e; cases e; exact hge
  rintro _ H3 ⟨kb, hb3, f3, hkb⟩
  have f13 : Frm [] H1 H3 := f2.up f3 (fun x hx => by rw [List.mem_singleton] at hx; subst hx; exact .inr (Nat.le_refl _))
  have hE0 : EntsG D H1 m G := hE.frm f1 (fun x hm => .inl (hEx x (by simp only [WS.ids, List.mem_cons, List.mem_append]; exact .inr (.inr (.inl hm)))))
  have hE1 : EntsG (H1.size :: kb.toList) H1 m G := hE0.apart (fun x hx => by
    rcases List.mem_cons.1 hx with rfl | hx
    · exact Nat.le_refl _
    · have := hkb x (by simpa using hx); omega)
  have hE3 := hE1.frm f13 (by simp)
  have hblt3 := hb3.lt
  have hXlt : ∀ x ∈ H1.size :: kb.toList, x < H3.size := fun x hx => by
    rcases List.mem_cons.1 hx with rfl | hx
    · exact hblt3.1
    · exact (hblt3.2 x (by simpa using hx)).1
  refine keysSorted_ok (D := H1.size :: kb.toList) hE3.map hkeys hs' hkl' hEn hXlt fun v H4 hv4 f4 => ?_
  have hE4 := hE3.frm f4 (by simp)
  have hb4 : BW H4 (H1.size :: kb.toList) H1.size (delimText last bd) H4 := ⟨kb, hb3.frm f4 (by simp) (by simp), Frm.refl _ _, .inl (by simp), fun g hg => .inl (by simp [hg])⟩
  have hdl : (delimText last bd).length ≤ bd.length + 10 := by cases last <;> simp [delimText]
  refine keysLoop_ok hE4 hp hnd hv4 hb4 hn hN (by omega) fun H5 hb5 => ?_
  refine (bwString_ok (d := [13, 10]) hb5 (by simp; omega)).mono ?_
  rintro x H6 ⟨k6, hb6, f6, _, hk6⟩
  have f16 : Frm [] H1 H6 := (f13.trans f4).up f6 (fun x hx => by
    rcases List.mem_cons.1 hx with e | e
    · exact .inr (by omega)
    · exact .inr (by have := hkb x (by simpa using e); omega))
  have hw6 : H6[wr]? = _ := f16.get hw1 (by simp)
  have hob6 := hb1.frm f16 (by simp) (by simp)
  have hk6' : ∀ g, k6 = some g → H1.size < g := fun g hg => by
    have h1 := (hb6.lt.2 g hg).2
    have h3 := f13.size
    have h4 := f4.size
    rcases hk6 g hg with e | e
    · rcases List.mem_cons.1 e with e | e
      · exact absurd e h1
      · have := hkb g (by simpa using e); omega
    · omega
  have htxt : delimText last bd ++ linesText (linesOf hs) ++ [13, 10] = delimText last bd ++ headText hs := by simp [headText]
  rw [htxt] at hb6
  simp only [Q0, Q1, Q2, Q3, Q4, Q5, Q6, Q7, Q8, Q9, Qa, Qb, Qc, Qd, Qe, Qf, Qg, Qh, Qi, Qj, cellH_of hw6]
  refine (ioCopy_ok hb6 hob6 (by omega) (fun e => by have := (hob1.2 _ e).1; omega) (fun e => by have := hk6' _ e; omega) (fun g hg e => by have := hk6' g hg; have := (hob1.2 g e).1; omega) (by cases last <;> simp [delimText]) (by simp; omega)).mono ?_
  rintro x H7 ⟨rfl, k', hb7, f7, hk7⟩
  have e3 : fillV #[(0, 1), (1, 1), (2, 1)] #[(.pointer none), (.bool false), .nilIface] [(0, .pointer (some ⟨wr, 0, none⟩))] = some #[.pointer (some ⟨wr, 0, none⟩), .bool false, .nilIface] := by
    rw [fillV_cons rfl rfl (by simp), fillV_nil]; rfl
  simp only [Q0, Q1, Q2, Q3, Q4, Q5, Q6, Q7, Q8, Q9, Qa, Qb, Qc, Qd, Qe, Qf, Qg, Qh, Qi, Qj, nilV2_neq_nil, e3, Option.map_some, Value.cells]
  have hw7 : H7[wr]? = _ := f7.get hw6 (fun hm => by
    rcases List.mem_cons.1 hm with e | e
    · omega
    · rcases List.mem_cons.1 e with e | e
      · exact n1 e.symm
      · exact n3 (by simpa using e))
  have hp8 := push_same H7 (.cells #[.pointer (some ⟨wr, 0, none⟩), .bool false, .nilIface] 121 (0, 0))
  have f8 : Frm [] H7 (H7.push (.cells #[.pointer (some ⟨wr, 0, none⟩), .bool false, .nilIface] 121 (0, 0))) := Frm.push _ _ _
  have z8 : (H7.push (.cells #[.pointer (some ⟨wr, 0, none⟩), .bool false, .nilIface] 121 (0, 0))).size = H7.size + 1 := by simp
  generalize H7.push (.cells #[.pointer (some ⟨wr, 0, none⟩), .bool false, .nilIface] 121 (0, 0)) = H8 at *
  have hw8 : H8[wr]? = _ := f8.get hw7 (by simp)
  refine Store_of hw8 (by simp) rfl fun H9 hw9 f9 z9 => ?_
  simp only [Qt, Qu, Qv] at hw9
  have hwr7 := lt_of_some hw7
  have hob7 := hb7.lt
  have hsz16 := f16.size
  have hsz7 := f7.size
  refine ⟨H7.size, k', rfl, ?_, ?_, by omega, ?_⟩
  rotate_right
  · rcases hk7 with e | ⟨g, e, hge⟩
    · exact .inl e
    · exact .inr ⟨g, e, by omega⟩
  · refine { buf := (hb7.frm f8 (by simp) (by simp)).frm f9 (by simpa using n1) (fun g hg => ?_), wr_ := hw9, pt := fun p hp => ?_, low := ⟨h.low.1, h.low.2.1, fun p hp => ?_, fun g hg => ?_⟩, ne := ⟨n1, fun p hp => ?_, ?_, fun e => (hob7.2 _ e).2 rfl⟩ }
    · rw [List.mem_singleton]
      rintro rfl
      rcases hk7 with e | ⟨g', e, hge⟩
      · exact n3 (by rw [← e, hg])
      · rw [hg] at e; cases e; omega
    · cases hp
      exact f9.get hp8 (by rw [List.mem_singleton]; omega)
    · cases hp; omega
    · rcases hk7 with e | ⟨g', e, hge⟩
      · exact h.low.2.2.2 g (by rw [← e, hg])
      · rw [hg] at e; cases e; omega
    · cases hp
      exact ⟨by omega, by omega, fun e => by have := (hob7.2 _ e).1; omega⟩
    · intro e2
      rcases hk7 with e | ⟨g', e, hge⟩
      · exact n3 (by rw [← e, e2])
      · rw [e2] at e; cases e; omega
  · have g1 : Frm (WS.ids ob wr k last) H H1 := f1.mono (fun x hx => by simp only [WS.ids, List.mem_cons, List.mem_append]; exact .inr (.inr (.inl hx)))
    refine (((g1.trans (f16.mono (by simp))).up f7 (fun x hx => ?_)).trans (f8.mono (by simp))).trans (f9.mono (by simp [WS.ids]))
    rcases List.mem_cons.1 hx with rfl | hx
    · exact .inr (by omega)
    · rcases List.mem_cons.1 hx with rfl | hx
      · exact .inl (by simp [WS.ids])
      · exact .inl (by simp only [WS.ids, List.mem_cons, List.mem_append]; exact .inr (.inr (.inr hx)))
theorem createPart_ok {B ob wr m N : Nat} {bd l : List UInt8} {k last : Option Nat} {H : Heap} {E : List Ent} {hs : List Hdr} (h : WS B ob wr bd k last l H) (hB : B ≤ H.size) (hE : Ents H m N E) (hEx : ∀ x ∈ Ents.blks m E, x ∉ WS.ids ob wr k last) (hp : (E.map Ent.hd).Perm hs) (hs' : (hs.map (·.1)).Pairwise (· < ·))
    (hkl : ∀ e ∈ E, e.key.length < 2 ^ 40) (hn : hs.length < 2 ^ 30) (hN : N < 2 ^ 40) (hl : l.length + bd.length + (headText hs).length + 100 < 2 ^ 38) :
    CallsH Tryz.prog 41 #[.pointer (some ⟨wr, 0, none⟩), .map (some m)] H fun x H' => ∃ p k', x = .tuple #[.iface 87 (.pointer (some ⟨p, 0, none⟩)), .nilIface] ∧ WS B ob wr bd k' (some p) (l ++ (delimText last bd ++ headText hs)) H' ∧ Frm (WS.ids ob wr k last) H H' ∧ H.size ≤ p ∧ (k' = k ∨ ∃ g, k' = some g ∧ H.size ≤ g) := by
  refine createPartG_ok (D := WS.ids ob wr k last) (G := E.map fun e => (e.hd, e.pair.2)) h hB (hE.toG hEx) (fun x hx => hx) (by rw [List.map_map]; exact hp) hs' (fun g hg => ?_) hn (fun g hg => ?_) (by omega)
  · obtain ⟨e, he, rfl⟩ := List.mem_map.1 hg
    exact hkl e he
  · obtain ⟨e, he, rfl⟩ := List.mem_map.1 hg
    exact Nat.lt_of_le_of_lt (hE.few e he) hN
end Go.Cps
namespace Go.Cps
open Go Go.Proofs
theorem canon1_up {c : UInt8} (h : canon1 true c = c) : ¬ (97 ≤ c.toNat ∧ c.toNat ≤ 122) := by
  intro hc
  have h1 := canon1_eq true c
  rw [h] at h1
  unfold canonI at h1
  have : decide ((97 : Int) ≤ (c.toNat : Int)) = true := by simp; omega
  have h3 : decide ((c.toNat : Int) ≤ 122) = true := by simp; omega
  rw [this, h3] at h1
  simp at h1
  omega
theorem canon1_low {c : UInt8} (h : canon1 false c = c) : ¬ (65 ≤ c.toNat ∧ c.toNat ≤ 90) := by
  intro hc
  have h1 := canon1_eq false c
  rw [h] at h1
  unfold canonI at h1
  have : decide ((65 : Int) ≤ (c.toNat : Int)) = true := by simp; omega
  have h3 : decide ((c.toNat : Int) ≤ 90) = true := by simp; omega
  rw [this, h3] at h1
  simp at h1
  omega
theorem canonId_ok {k : List UInt8} {H : Heap} (hl : k.length < 2 ^ 40) (ht : ∀ b ∈ k, tok b.toNat = true) (hc : canonG true k = k) : CallsH Tryz.prog 53 #[strVal k] H fun x H' => x = strVal k ∧ H' = H := by
  apply s98
  unfold c98
  refine ⟨fun μ vs H' => ∃ (i : Nat) (up : Bool), vs = [strVal k, .bool up, .int .i64 i] ∧ μ = k.length - i ∧ i ≤ k.length ∧ H' = H ∧ canonG up (k.drop i) = k.drop i, ⟨_, 0, true, rfl, rfl, Nat.zero_le _, rfl, by simpa using hc⟩, ?_⟩
  rintro μ vs H ⟨i, up, rfl, rfl, hi, rfl, hd⟩
  simp only [Q0, Q1, Q2, Q3, Q4, Q5, Q6, Q7, Q8, Q9, Qa, Qb, Qc, Qd, Qe, Qf, Qg, Qh, Qi, Qj, lenStr_of, Qk, Ql, Qm, Qn, Qo, Qp, Qq, Qr, Qs, dec_lt]
  refine Br_intro (fun hlt => ?_) (fun hlt => ⟨trivial, trivial⟩)
  have hlt' : i < k.length := by simpa using hlt
  simp only [strIndex_of hlt', Q0, Q1, Q2, Q3, Q4, Q5, Q6, Q7, Q8, Q9, Qa, Qb, Qc, Qd, Qe, Qf, Qg, Qh, Qi, Qj]
  refine fieldByte_ok.mono ?_
  rintro x H ⟨rfl, rfl⟩
  rw [List.drop_eq_getElem_cons hlt'] at hd
  simp only [canonG, List.cons.injEq] at hd
  obtain ⟨hd1, hd2⟩ := hd
  have httok := ht _ (List.getElem_mem hlt')
  simp only [httok, Q0, Q1, Q2, Q3, Q4, Q5, Q6, Q7, Q8, Q9, Qa, Qb, Qc, Qd, Qe, Qf, Qg, Qh, Qi, Qj, Bool.not_true]
  have e45 : (((k[i].toNat : Nat) : Int) == 45) = (k[i] == 45) := byte_beq k[i] 45
  have dle : ∀ a b : Nat, decide ((a : Int) ≤ (b : Int)) = decide (a ≤ b) := fun a b => by simp
  refine ⟨fun vs H' => vs = [.bool false] ∧ H' = H, ?_, ?_⟩
  · cases up with
    | true =>
      have h1 := canon1_up hd1
      simp only [Q0, Q1, Q2, Q3, Q4, Q5, Q6, Q7, Q8, Q9, Qa, Qb, Qc, Qd, Qe, Qf, Qg, Qh, Qi, Qj, byteV, Qk, Ql, Qm, Qn, Qo, Qp, Qq, Qr, Qs]
      refine Br_intro (fun h2 => ?_) (fun h2 => ?_)
      · have h2' : 97 ≤ k[i].toNat := by simp at h2; omega
        have h3 : decide (((k[i].toNat : Nat) : Int) ≤ 122) = false := by simp; omega
        simp only [Q0, Q1, Q2, Q3, Q4, Q5, Q6, Q7, Q8, Q9, Qa, Qb, Qc, Qd, Qe, Qf, Qg, Qh, Qi, Qj, Qk, Ql, Qm, Qn, Qo, Qp, Qq, Qr, Qs, h3, h2, if_true, and_self]
      · simp only [Q0, Q1, Q2, Q3, Q4, Q5, Q6, Q7, Q8, Q9, Qa, Qb, Qc, Qd, Qe, Qf, Qg, Qh, Qi, Qj, Bool.false_eq_true, if_false, and_self]
    | false => simp only [Q0, Q1, Q2, Q3, Q4, Q5, Q6, Q7, Q8, Q9, Qa, Qb, Qc, Qd, Qe, Qf, Qg, Qh, Qi, Qj, Bool.false_eq_true, if_false, and_self]
  rintro _ H ⟨rfl, rfl⟩
  simp only [Q0, Q1, Q2, Q3, Q4, Q5, Q6, Q7, Q8, Q9, Qa, Qb, Qc, Qd, Qe, Qf, Qg, Qh, Qi, Qj]
  refine ⟨fun vs H' => vs = [.bool false] ∧ H' = H, ?_, ?_⟩
  · cases up with
    | false =>
      have h1 := canon1_low hd1
      simp only [Q0, Q1, Q2, Q3, Q4, Q5, Q6, Q7, Q8, Q9, Qa, Qb, Qc, Qd, Qe, Qf, Qg, Qh, Qi, Qj, byteV, Qk, Ql, Qm, Qn, Qo, Qp, Qq, Qr, Qs, Bool.not_false]
      refine Br_intro (fun h2 => ?_) (fun h2 => ?_)
      · have h2' : 65 ≤ k[i].toNat := by simp at h2; omega
        have h3 : decide (((k[i].toNat : Nat) : Int) ≤ 90) = false := by simp; omega
        simp only [Q0, Q1, Q2, Q3, Q4, Q5, Q6, Q7, Q8, Q9, Qa, Qb, Qc, Qd, Qe, Qf, Qg, Qh, Qi, Qj, Qk, Ql, Qm, Qn, Qo, Qp, Qq, Qr, Qs, h3, h2, if_true, and_self]
      · simp only [Q0, Q1, Q2, Q3, Q4, Q5, Q6, Q7, Q8, Q9, Qa, Qb, Qc, Qd, Qe, Qf, Qg, Qh, Qi, Qj, Bool.false_eq_true, if_false, and_self]
    | true => simp only [Q0, Q1, Q2, Q3, Q4, Q5, Q6, Q7, Q8, Q9, Qa, Qb, Qc, Qd, Qe, Qf, Qg, Qh, Qi, Qj, Bool.not_true, Bool.false_eq_true, if_false, and_self]
  rintro _ H ⟨rfl, rfl⟩
  simp only [Q0, Q1, Q2, Q3, Q4, Q5, Q6, Q7, Q8, Q9, Qa, Qb, Qc, Qd, Qe, Qf, Qg, Qh, Qi, Qj, byteV, Qk, Ql, Qm, Qn, Qo, Qp, Qq, Qr, Qs, e45, inc_i64 (show i < 2 ^ 62 by omega)]
  refine ⟨_, by omega, i + 1, (k[i] == 45), rfl, rfl, hlt', trivial, ?_⟩
  rw [hd1] at hd2
  exact hd2
theorem set_ok {H : Heap} {m N : Nat} {E : List Ent} {k v : List UInt8} (hE : Ents H m N E) (hN : 1 ≤ N) (hk : ∀ e ∈ E, e.key ≠ k) (hl : k.length < 2 ^ 40) (ht : ∀ b ∈ k, tok b.toNat = true) (hc : canonG true k = k) :
    CallsH Tryz.prog 39 #[.map (some m), strVal k, strVal v] H fun _ H' => Ents H' m N (E ++ [⟨k, H.size, 0, 1, [v]⟩]) ∧ Frm [m] H H' := by
  apply s74
  unfold c74
  refine (canonId_ok hl ht hc).mono ?_
  rintro x H ⟨rfl, rfl⟩
  rw [fill1 (v := strVal v) rfl, Q6, NewSl]
  have f1 : Frm [] H (H.push (.cells #[strVal v] 9 (0, 0))) := Frm.push _ _ _
  have hb1 := push_same H (.cells #[strVal v] 9 (0, 0))
  have z1 : (H.push (.cells #[strVal v] 9 (0, 0))).size = H.size + 1 := by simp
  generalize H.push (.cells #[strVal v] 9 (0, 0)) = H1 at *
  have hE1 := hE.frm f1 (by simp)
  have hst : StrsAt H1 H.size 0 1 [v] := ⟨_, hb1, by simp, by simp, fun j hj => by
    have : j = 0 := by simpa using hj
    subst this
    rfl⟩
  obtain ⟨H2, hE2, f2, z2, hex⟩ := putNew_ok und106 hE1 (getE_absent hk) hst (fun e he => by
    have := hE.lt e.b (by simp only [Ents.blks, List.mem_cons, List.mem_map]; exact .inr ⟨e, he, rfl⟩)
    omega) (by simpa using hN)
  rw [show (Value.slice (some ⟨H.size, 0, none⟩) 1 1) = Value.slice (some ⟨H.size, 0, none⟩) [v].length 1 from rfl, hex]
  exact ⟨hE2, (f1.mono (by simp)).trans f2⟩
theorem cd_tok : ∀ b ∈ cdKey, tok b.toNat = true := by decide
theorem cd_canon : canonG true cdKey = cdKey := by decide
theorem ct_tok : ∀ b ∈ ctKey, tok b.toNat = true := by decide
theorem ct_canon : canonG true ctKey = ctKey := by decide
theorem cd_lt_ct : cdKey < ctKey := by decide
theorem cd_ne_ct : cdKey ≠ ctKey := by decide
theorem mapNew_ents {H : Heap} {N : Nat} : Ents (H.push (.map #[] 0)) H.size N [] := ⟨mapAt_new H, by simp, List.Pairwise.nil, by simp⟩
theorem fileDisp_ok {name file : List UInt8} {H : Heap} (h1 : name.length < 2 ^ 34) (h2 : file.length < 2 ^ 34) (hp1 : name.all prB = true) (hp2 : file.all prB = true) :
    CallsH Tryz.prog 40 #[strVal name, strVal file] H fun x H' => x = strVal ((dName ++ quoteB name ++ [34]) ++ (dFile ++ quoteB file ++ [34])) ∧ Frm [] H H' := by
  have hq1 := quoteB_len name
  have hq2 := quoteB_len file
  apply s75
  unfold c75
  refine (escape_ok (by omega) hp1).mono ?_
  rintro x H1 ⟨rfl, f1⟩
  have e1 : strV .add (.string ⟨#[102, 111, 114, 109, 45, 100, 97, 116, 97, 59, 32, 110, 97, 109, 101, 61, 34]⟩) (strVal (quoteB name)) = some (strVal (dName ++ quoteB name)) := strV_add (a := dName) (by simp [dName]; omega)
  have e2 : strV .add (strVal (dName ++ quoteB name)) (.string ⟨#[34, 59, 32, 102, 105, 108, 101, 110, 97, 109, 101, 61, 34]⟩) = some (strVal (dName ++ quoteB name ++ (34 :: dFile))) := strV_add (b := 34 :: dFile) (by simp [dName, dFile]; omega)
  simp only [e1, e2, Q6]
  refine (escape_ok (by omega) hp2).mono ?_
  rintro x H2 ⟨rfl, f2⟩
  have e3 : strV .add (strVal (dName ++ quoteB name ++ (34 :: dFile))) (strVal (quoteB file)) = some (strVal (dName ++ quoteB name ++ (34 :: dFile) ++ quoteB file)) := strV_add (by simp [dName, dFile]; omega)
  have e4 : strV .add (strVal (dName ++ quoteB name ++ (34 :: dFile) ++ quoteB file)) (.string ⟨#[34]⟩) = some (strVal (dName ++ quoteB name ++ (34 :: dFile) ++ quoteB file ++ [34])) := strV_add (b := [34]) (by simp [dName, dFile]; omega)
  simp only [e3, e4, Q6]
  exact ⟨by simp, f1.trans f2⟩
end Go.Cps
namespace Go.Cps
open Go Go.Proofs
theorem headText1 (k v : List UInt8) : headText [(k, [v])] = lineOf (k, v) ++ [13, 10, 13, 10] := by simp [headText, linesOf, linesText]
theorem createField_ok {B ob wr : Nat} {bd l name : List UInt8} {k last : Option Nat} {H : Heap} (h : WS B ob wr bd k last l H) (hB : B ≤ H.size) (hn : name.length < 2 ^ 33) (hp : name.all prB = true) (hl : l.length + bd.length < 2 ^ 37) :
    CallsH Tryz.prog 38 #[.pointer (some ⟨wr, 0, none⟩), strVal name] H fun x H' => ∃ p k', x = .tuple #[.iface 87 (.pointer (some ⟨p, 0, none⟩)), .nilIface] ∧ WS B ob wr bd k' (some p) (l ++ (delimText last bd ++ headText [(cdKey, [dName ++ quoteB name ++ [34]])])) H' ∧ Frm (WS.ids ob wr k last) H H' ∧ H.size ≤ p ∧ (k' = k ∨ ∃ g, k' = some g ∧ H.size ≤ g) := by
  have hq := quoteB_len name
  have hlt := h.lt
  apply s73
  simp only [c73, NewMap]
  have f1 : Frm [] H (H.push (.map #[] 0)) := Frm.push _ _ _
  have hE1 := mapNew_ents (H := H) (N := 1)
  have z1 : (H.push (.map #[] 0)).size = H.size + 1 := by simp
  generalize H.push (.map #[] 0) = H1 at *
  refine (escape_ok (by omega) hp).mono ?_
  rintro x H2 ⟨rfl, f2⟩
  have e1 : strV .add (.string ⟨#[102, 111, 114, 109, 45, 100, 97, 116, 97, 59, 32, 110, 97, 109, 101, 61, 34]⟩) (strVal (quoteB name)) = some (strVal (dName ++ quoteB name)) := strV_add (a := dName) (by simp [dName]; omega)
  have e2 : strV .add (strVal (dName ++ quoteB name)) (.string ⟨#[34]⟩) = some (strVal (dName ++ quoteB name ++ [34])) := strV_add (b := [34]) (by simp [dName]; omega)
  simp only [e1, e2, Q6]
  have hE2 := hE1.frm f2 (by simp)
  refine (set_ok (k := cdKey) hE2 (Nat.le_refl _) (by simp) (by simp [cdKey]) cd_tok cd_canon).mono ?_
  rintro x H3 ⟨hE3, f3⟩
  simp only [List.nil_append] at hE3
  have f13 : Frm [] H H3 := (f1.trans f2).up f3 (fun x hx => by rw [List.mem_singleton] at hx; subst hx; exact .inr (Nat.le_refl _))
  have hs3 := f13.size
  have hs2 := f2.size
  have hbl : ∀ x ∈ Ents.blks H.size [⟨cdKey, H2.size, 0, 1, [dName ++ quoteB name ++ [34]]⟩], H.size ≤ x := by
    intro x hx
    simp only [Ents.blks, List.map_cons, List.map_nil, List.mem_cons, List.not_mem_nil, or_false] at hx
    rcases hx with rfl | rfl
    · exact Nat.le_refl _
    · omega
  have h3 := h.frm f13 (by simp)
  refine (createPart_ok (hs := [(cdKey, [dName ++ quoteB name ++ [34]])]) h3 (by omega) hE3 (fun x hx hm => ?_) (List.Perm.refl _) (by simp) (by simp [cdKey]) (by simp) (by omega) ?_).mono ?_
  · have := hbl x hx; have := (hlt x hm).1; omega
  · rw [headText1]; simp [lineOf, cdKey, dName]; omega
  rintro x H4 ⟨p, k', rfl, h4, f4, hp4, hk4⟩
  simp only [Q0, Q1, Q2, Q3, Q4, Q5, Q6, Q7, Q8, Q9, Qa, Qb, Qc, Qd, Qe, Qf, Qg, Qh, Qi, Qj]
  refine ⟨p, k', rfl, h4, (f13.mono (by simp)).trans f4, by omega, ?_⟩
  rcases hk4 with e | ⟨g, e, hg⟩
  · exact .inl e
  · exact .inr ⟨g, e, by omega⟩
theorem createFile_ok {B ob wr : Nat} {bd l name file : List UInt8} {k last : Option Nat} {H : Heap} (h : WS B ob wr bd k last l H) (hB : B ≤ H.size) (hn : name.length < 2 ^ 33) (hp : name.all prB = true) (hn2 : file.length < 2 ^ 33) (hp2 : file.all prB = true) (hl : l.length + bd.length < 2 ^ 37) :
    CallsH Tryz.prog 24 #[.pointer (some ⟨wr, 0, none⟩), strVal name, strVal file] H fun x H' => ∃ p k', x = .tuple #[.iface 87 (.pointer (some ⟨p, 0, none⟩)), .nilIface] ∧ WS B ob wr bd k' (some p) (l ++ (delimText last bd ++ headText [(cdKey, [(dName ++ quoteB name ++ [34]) ++ (dFile ++ quoteB file ++ [34])]), (ctKey, [octet])])) H' ∧ Frm (WS.ids ob wr k last) H H' ∧ H.size ≤ p ∧ (k' = k ∨ ∃ g, k' = some g ∧ H.size ≤ g) := by
  have hq := quoteB_len name
  have hq2 := quoteB_len file
  have hlt := h.lt
  apply s44
  simp only [c44, NewMap]
  have f1 : Frm [] H (H.push (.map #[] 0)) := Frm.push _ _ _
  have hE1 := mapNew_ents (H := H) (N := 1)
  have z1 : (H.push (.map #[] 0)).size = H.size + 1 := by simp
  generalize H.push (.map #[] 0) = H1 at *
  refine (fileDisp_ok (by omega) (by omega) hp hp2).mono ?_
  rintro x H2 ⟨rfl, f2⟩
  have hE2 := hE1.frm f2 (by simp)
  refine (set_ok (k := cdKey) hE2 (Nat.le_refl _) (by simp) (by simp [cdKey]) cd_tok cd_canon).mono ?_
  rintro x H3 ⟨hE3, f3⟩
  simp only [List.nil_append] at hE3
  refine (set_ok (k := ctKey) (v := octet) hE3 (Nat.le_refl _) (by simp [cd_ne_ct]) (by simp [ctKey]) ct_tok ct_canon).mono ?_
  rintro x H4 ⟨hE4, f4⟩
  have f14 : Frm [] H H4 := ((f1.trans f2).up f3 (fun x hx => by rw [List.mem_singleton] at hx; subst hx; exact .inr (Nat.le_refl _))).up f4 (fun x hx => by rw [List.mem_singleton] at hx; subst hx; exact .inr (Nat.le_refl _))
  have hs4 := f14.size
  have hs2 := f2.size
  have hs3 := f3.size
  generalize hdv : (dName ++ quoteB name ++ [34]) ++ (dFile ++ quoteB file ++ [34]) = dv at *
  have hdl : dv.length < 2 ^ 36 := by rw [← hdv]; simp [dName, dFile]; omega
  have hbl : ∀ x ∈ Ents.blks H.size ([⟨cdKey, H2.size, 0, 1, [dv]⟩] ++ [⟨ctKey, H3.size, 0, 1, [octet]⟩]), H.size ≤ x := by
    intro x hx
    simp only [Ents.blks, List.map_cons, List.map_nil, List.map_append, List.cons_append, List.nil_append, List.mem_cons, List.not_mem_nil, or_false] at hx
    rcases hx with rfl | rfl | rfl <;> omega
  have h4 := h.frm f14 (by simp)
  refine (createPart_ok (hs := [(cdKey, [dv]), (ctKey, [octet])]) h4 (by omega) hE4 (fun x hx hm => ?_) (List.Perm.refl _) (by simp [cd_lt_ct]) (by simp [cdKey, ctKey]) (by simp) (by omega) ?_).mono ?_
  · have := hbl x hx; have := (hlt x hm).1; omega
  · simp [headText, linesOf, linesText, lineOf, cdKey, ctKey, octet]; omega
  rintro x H5 ⟨p, k', rfl, h5, f5, hp5, hk5⟩
  simp only [Q0, Q1, Q2, Q3, Q4, Q5, Q6, Q7, Q8, Q9, Qa, Qb, Qc, Qd, Qe, Qf, Qg, Qh, Qi, Qj]
  refine ⟨p, k', rfl, h5, (f14.mono (by simp)).trans f5, by omega, ?_⟩
  rcases hk5 with e | ⟨g, e, hg⟩
  · exact .inl e
  · exact .inr ⟨g, e, by omega⟩
theorem writeField_ok {B ob wr : Nat} {bd l name value : List UInt8} {k last : Option Nat} {H : Heap} (h : WS B ob wr bd k last l H) (hB : B ≤ H.size) (hn : name.length < 2 ^ 33) (hp : name.all prB = true) (hl : l.length + bd.length < 2 ^ 37) (hv : value.length < 2 ^ 38) :
    CallsH Tryz.prog 23 #[.pointer (some ⟨wr, 0, none⟩), strVal name, strVal value] H fun _ H' => ∃ p k', WS B ob wr bd k' (some p) (l ++ (delimText last bd ++ headText [(cdKey, [dName ++ quoteB name ++ [34]])]) ++ value) H' ∧ Frm (WS.ids ob wr k last) H H' ∧ H.size ≤ p ∧ (k' = k ∨ ∃ g, k' = some g ∧ H.size ≤ g) := by
  have hq := quoteB_len name
  have hlt := h.lt
  apply s43
  unfold c43
  refine (createField_ok h hB hn hp hl).mono ?_
  rintro x H1 ⟨p, k1, rfl, h1, f1, hp1, hk1⟩
  simp only [Q0, Q1, Q2, Q3, Q4, Q5, Q6, Q7, Q8, Q9, Qa, Qb, Qc, Qd, Qe, Qf, Qg, Qh, Qi, Qj, nilV2_neq_nil]
  refine toBytes_of fun c H2 hc hr2 f2 z2 => ?_
  have hx2 : IsBytes H2 (.slice (some ⟨H1.size, 0, none⟩) value.length c) value := by
    have := hr2.bytes (o := 0) (c := c) (n := value.length) (by simp) hc
    rwa [List.drop_zero, List.take_length] at this
  have h2 := h1.frm f2 (by simp)
  have hlt1 := h1.lt
  have hs1 := f1.size
  refine invoke_of 233 meth103 body212 ?_
  have hob := (hlt1 ob (by simp [WS.ids])).1
  have hdl : (delimText last bd).length ≤ bd.length + 10 := by cases last <;> simp [delimText]
  refine (partWrite_ok h2 hx2 (fun y hy => by simp [blk] at hy; omega) ?_ (by omega)).mono ?_
  · rw [List.length_append, List.length_append, headText1]
    simp [lineOf, cdKey, dName]
    omega
  rintro x H3 ⟨rfl, k3, h3, f3, hk3⟩
  simp only [Q0, Q1, Q2, Q3, Q4, Q5, Q6, Q7, Q8, Q9, Qa, Qb, Qc, Qd, Qe, Qf, Qg, Qh, Qi, Qj]
  refine ⟨p, k3, h3, ((f1.trans (f2.mono (by simp))).up f3 (fun x hx => ?_)), hp1, ?_⟩
  · rcases List.mem_cons.1 hx with rfl | hx
    · exact .inl (by simp [WS.ids])
    · have hx1 : k1 = some x := by simpa using hx
      rcases hk1 with e | ⟨g, e, hg⟩
      · exact .inl (by simp only [WS.ids, List.mem_cons, List.mem_append, Option.mem_toList]; exact .inr (.inr (.inr (by rw [← e, hx1]))))
      · rw [hx1] at e; cases e; exact .inr hg
  · rcases hk3 with e | ⟨g, e, hg⟩
    · rcases hk1 with e1 | ⟨g, e1, hg⟩
      · exact .inl (e.trans e1)
      · exact .inr ⟨g, e.trans e1, hg⟩
    · exact .inr ⟨g, e, by omega⟩
end Go.Cps
namespace Go.Cps
open Go Go.Proofs
theorem RB.setm {S : Stk} {mr tb : Nat} {m m' : MRf} {bd : List UInt8} {B : Nat} {ea ua : Addr} {mode : Option (List UInt8)} {pt hm : Nat} {b : List UInt8} {n total : Nat} {ev : Sk} {re : Bool} {s : St} {H H' : Heap}
    (h : RB (rawEnv S mr tb m bd B ea ua mode pt hm) b n total ev re s H) (hm' : H'[mr]? = some (.cells m'.cells 76 (0, 0))) (f : Frm [mr] H H') (he : m'.br = m.br ∧ m'.nl = m.nl ∧ m'.nld = m.nld ∧ m'.dd = m.dd ∧ m'.dash = m.dash) :
    RB (rawEnv S mr tb m' bd B ea ua mode pt hm) b n total ev re s H' := by
  have hpt : pt ∉ mr :: tb :: S.ids := h.hpt
  simp only [List.mem_cons, not_or] at hpt
  have ma : MRAt S mr tb m bd H := h.ma
  have hne : ∀ x ∈ S.ids, x ∉ [mr] := fun x hx => by rw [List.mem_singleton]; rintro rfl; exact ma.hmr hx
  have htb : tb ∉ [mr] := by rw [List.mem_singleton]; intro e; exact ma.ht (by simp [e])
  obtain ⟨e1, e2, e3, e4, e5⟩ := he
  have hrd : RdAt S s H' := h.rd.frm f hne (fun x hx => by rw [List.mem_singleton]; rintro rfl; exact ma.hv hx) (by rw [List.mem_singleton]; exact fun e => ma.h0 e.symm)
  have hp : H'[pt]? = some (.cells (ptCells (rawEnv S mr tb m bd B ea ua mode pt hm).P mr n total (skV (.iface 109 (.pointer (some ea))) (.iface 109 (.pointer (some ua))) ev) (if re then .iface 109 (.pointer (some ua)) else .nilIface)) 85 (0, 0)) := f.get h.hp (by rw [List.mem_singleton]; exact hpt.1)
  refine { rd := hrd, ma := ?_, hp := hp, er := ?_, bdr := h.bdr, rest := h.rest, nw := h.nw, t0 := h.t0, nb := h.nb, nk := h.nk, full := h.full, cut := h.cut, tot := h.tot, low := h.low, hpt := h.hpt, hpv := h.hpv, hE := h.hE }
  · exact { hm := hm', hbr := by rw [show (rawEnv S mr tb m' bd B ea ua mode pt hm).m = m' from rfl, e1]; exact ma.hbr, nl := by
              rw [show (rawEnv S mr tb m' bd B ea ua mode pt hm).m = m' from rfl, e2]; exact ma.nl.frm f (fun x hx => by rw [ma.bl.1] at hx; cases hx; exact htb), nld := by
              rw [show (rawEnv S mr tb m' bd B ea ua mode pt hm).m = m' from rfl, e3]; exact ma.nld.frm f (fun x hx => by rw [ma.bl.2.1] at hx; cases hx; exact htb), dd := by
              rw [show (rawEnv S mr tb m' bd B ea ua mode pt hm).m = m' from rfl, e4]; exact ma.dd.frm f (fun x hx => by rw [ma.bl.2.2.1] at hx; cases hx; exact htb), dash := by
              rw [show (rawEnv S mr tb m' bd B ea ua mode pt hm).m = m' from rfl, e5]; exact ma.dash.frm f (fun x hx => by rw [ma.bl.2.2.2] at hx; cases hx; exact htb), bl := by
              rw [show (rawEnv S mr tb m' bd B ea ua mode pt hm).m = m' from rfl, e2, e3, e4, e5]; exact ma.bl, ht := ma.ht, hmr := ma.hmr, hv := ma.hv, h0 := ma.h0 }
  · exact Errs.frm (B := B) h.er f (fun x hx => by
      rw [List.mem_singleton] at hx; subst hx
      exact h.low x (by simp [rawEnv]))
theorem ahead116 (a : Addr) : aheadP Tryz.prog 41 (.pointer (some a)) "Read" = true := by kernel_rfl
end Go.Cps
