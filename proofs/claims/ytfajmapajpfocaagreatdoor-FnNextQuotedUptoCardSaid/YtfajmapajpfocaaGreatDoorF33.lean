/-
  A part of the proof: strings.EqualFold of equal texts and of an empty one; MIMEHeader.Del of a canonical key. newPart as NextPart calls it: a part without the encoding is as it is; of one in the encoding the header is hidden and the reader decodes. NextPart over a part, in the encoding or not; what can be done with the part that is given. impl.parts over NextPart: the parts of a whole body, in the encoding or not; impl.Next.
  Conditions: each contract's own.
-/
import Derived.Test.YtfajmapajpfocaaGreatDoorF24
import Derived.Test.YtfajmapajpfocaaGreatDoorF28
import Derived.Test.YtfajmapajpfocaaGreatDoorF32
set_option linter.all false
namespace Go.Cps
open Go Go.Proofs
theorem or_self8 (n : Nat) (h : n < 256) : IntKind.u8.wrap ((BitVec.ofInt IntKind.u8.bits (n : Int) ||| BitVec.ofInt IntKind.u8.bits (n : Int)).toNat : Int) = (n : Int) := by
  have e : (BitVec.ofInt 8 (n : Int) ||| BitVec.ofInt 8 (n : Int)).toNat = n := by
    rw [BitVec.or_self]
    simp
    omega
  show IntKind.u8.wrap ((BitVec.ofInt 8 (n : Int) ||| BitVec.ofInt 8 (n : Int)).toNat : Int) = (n : Int)
  rw [e]
  exact wrap_u8 (by omega) (by omega)
theorem eqFold_ok {s t : List UInt8} {H : Heap} (ha : ∀ c ∈ t, c.toNat < 128) (h : s = t ∨ (s = [] ∧ t ≠ [])) (ht : t.length < 2 ^ 30) : CallsH Tryz.prog 115 #[strVal s, strVal t] H fun x H' => x = .bool (decide (s = t)) ∧ H' = H := by
  apply s115
  have hmin : ∀ a b : Nat, minV (.int .i64 a) (.int .i64 b) = some (.int .i64 (min a b : Nat)) := fun a b => by
    simp only [minV]
    by_cases hab : (b : Int) < (a : Int)
    · rw [if_pos hab, Nat.min_eq_right (by omega)]
    · rw [if_neg hab, Nat.min_eq_left (by omega)]
  simp only [c115, lenStr_of, Q0, Q1, Q2, Q3, Q4, Q5, Q6, Q7, Q8, Q9, Qa, Qb, Qc, Qd, Qe, Qf, Qg, Qh, Qi, Qj, hmin]
  rcases h with rfl | ⟨rfl, hne⟩
  · refine ⟨fun μ vs H1 => ∃ i : Nat, vs = [.int .i64 i] ∧ μ = s.length - i ∧ i ≤ s.length ∧ H1 = H, ⟨_, 0, rfl, rfl, Nat.zero_le _, rfl⟩, ?_⟩
    rintro μ vs H1 ⟨i, rfl, rfl, hi, rfl⟩
    simp only [Q0, Q1, Q2, Q3, Q4, Q5, Q6, Q7, Q8, Q9, Qa, Qb, Qc, Qd, Qe, Qf, Qg, Qh, Qi, Qj, Qk, Ql, Qm, Qn, Qo, Qp, Qq, Qr, Qs, Nat.min_self, dec_lt]
    refine Br_intro (fun hlt => ?_) (fun hlt => ?_)
    · have hlt' : i < s.length := by simpa using hlt
      have h128 := ha _ (List.getElem_mem hlt')
      have hor : arithV .or .u8 (byteV s[i]) (byteV s[i]) = some (byteV s[i]) := by
        have := or_self8 s[i].toNat (s[i]).toNat_lt
        simp only [byteV, arithV, if_true, and_self, this]
      have hge : arithV .geq .u8 (byteV s[i]) (.int .u8 128) = some (.bool false) := by
        simp only [byteV, Qk, Ql, Qm, Qn, Qo, Qp, Qq, Qr, Qs, Option.some.injEq, Value.bool.injEq, decide_eq_false_iff_not]
        omega
      have hee : arithV .eql .u8 (byteV s[i]) (byteV s[i]) = some (.bool true) := by simp [byteV]
      refine Join_direct ?_
      simp only [strIndex_of hlt', Q0, Q1, Q2, Q3, Q4, Q5, Q6, Q7, Q8, Q9, Qa, Qb, Qc, Qd, Qe, Qf, Qg, Qh, Qi, Qj, hor, hge, hee]
      simp only [inc_i64 (show i < 2 ^ 62 by omega), Qk, Ql, Qm, Qn, Qo, Qp, Qq, Qr, Qs, Q0, Q1, Q2, Q3, Q4, Q5, Q6, Q7, Q8, Q9, Qa, Qb, Qc, Qd, Qe, Qf, Qg, Qh, Qi, Qj]
      exact ⟨_, by omega, i + 1, rfl, rfl, hlt', trivial⟩
    · simp
  · have hn : 0 < t.length := List.length_pos_iff.2 hne
    refine ⟨fun μ vs H1 => vs = [.int .i64 0] ∧ H1 = H, ⟨0, rfl, rfl⟩, ?_⟩
    rintro μ vs H1 ⟨rfl, rfl⟩
    have e0 : decide ((0 : Int) < ((min ([] : List UInt8).length t.length : Nat) : Int)) = false := by simp
    have e1 : ((([] : List UInt8).length : Int) == (t.length : Int)) = false := by rw [beq_eq_false_iff_ne]; simp only [List.length_nil]; omega
    have e2 : decide ([] = t) = false := by rw [decide_eq_false_iff_not]; exact fun e => hne e.symm
    simp only [Q0, Q1, Q2, Q3, Q4, Q5, Q6, Q7, Q8, Q9, Qa, Qb, Qc, Qd, Qe, Qf, Qg, Qh, Qi, Qj, Qk, Ql, Qm, Qn, Qo, Qp, Qq, Qr, Qs, e0, e1, e2]
    exact ⟨trivial, trivial⟩
def delE (k : List UInt8) : List (List UInt8 × Value) → List (List UInt8 × Value)
  | [] => []
  | p :: r => if p.1 = k then r else p :: delE k r
def delH (k : List UInt8) : List Hdr → List Hdr
  | [] => []
  | p :: r => if p.1 = k then r else p :: delH k r
def delEnt (k : List UInt8) : List Ent → List Ent
  | [] => []
  | p :: r => if p.key = k then r else p :: delEnt k r
theorem delEnt_pair (k : List UInt8) : ∀ E : List Ent, (delEnt k E).map Ent.pair = delE k (E.map Ent.pair)
  | [] => rfl
  | p :: r => by
    simp only [delEnt, List.map_cons, delE]
    by_cases h : p.key = k
    · rw [if_pos h, if_pos (show p.pair.1 = k from h)]
    · rw [if_neg h, if_neg (show ¬ p.pair.1 = k from h), List.map_cons, delEnt_pair k r]
theorem delEnt_hd (k : List UInt8) : ∀ E : List Ent, (delEnt k E).map Ent.hd = delH k (E.map Ent.hd)
  | [] => rfl
  | p :: r => by
    simp only [delEnt, List.map_cons, delH]
    by_cases h : p.key = k
    · rw [if_pos h, if_pos (show p.hd.1 = k from h)]
    · rw [if_neg h, if_neg (show ¬ p.hd.1 = k from h), List.map_cons, delEnt_hd k r]
theorem delEnt_sub (k : List UInt8) : ∀ E : List Ent, (delEnt k E).Sublist E
  | [] => List.Sublist.slnil
  | p :: r => by
    simp only [delEnt]
    split
    · exact List.sublist_cons_self _ _
    · exact (delEnt_sub k r).cons₂ _
theorem delE_none {k : List UInt8} : ∀ {E : List (List UInt8 × Value)}, posE k E = none → delE k E = E
  | [], _ => rfl
  | p :: r, h => by
    simp only [posE] at h
    split at h
    · cases h
    · rename_i hk
      rw [Option.map_eq_none_iff] at h
      simp only [delE, if_neg hk, delE_none h]
theorem delE_some {k : List UInt8} : ∀ {E : List (List UInt8 × Value)} {j : Nat}, posE k E = some j → j < E.length ∧ delE k E = E.eraseIdx j
  | [], j, h => by cases h
  | p :: r, j, h => by
    simp only [posE] at h
    split at h
    · rename_i hk
      cases h
      exact ⟨by simp, by simp [delE, hk]⟩
    · rename_i hk
      obtain ⟨i, hi, rfl⟩ := Option.map_eq_some_iff.1 h
      obtain ⟨h1, h2⟩ := delE_some hi
      exact ⟨by simp; omega, by simp [delE, hk, h2]⟩
theorem map_eraseIdx {α β : Type} (f : α → β) : ∀ (l : List α) (i : Nat), (l.eraseIdx i).map f = (l.map f).eraseIdx i
  | [], _ => by simp
  | a :: r, 0 => by simp
  | a :: r, i + 1 => by simp [map_eraseIdx f r i]
theorem delete_of {m : Nat} {k : List UInt8} {ents : List (List UInt8 × Value)} {H : Heap} (h : MapAt H m ents) :
    ∃ H', MapAt H' m (delE k ents) ∧ Frm [m] H H' ∧ H'.size = H.size ∧ ∀ K : Value → Heap → Prop, ExecV Tryz.prog (Builtin.delete_ #[106, 9] 0 #[.map (some m), strVal k]) H K = K (.tuple #[]) H' := by
  obtain ⟨es, c, h1, h2, h3, h4⟩ := h
  have hs : (posE k ents).isSome = (getE k ents).isSome := posE_some
  have hset : ∀ (w : World) (o : Obj), w.heap = H → (setObj m o).run Tryz.prog w = .ok () { w with heap := upd H m o } := fun w o hw => by
    subst hw
    simp only [setObj, Sem.run, h1]
    rfl
  have hrun : ∀ (es' : Array MapEntry), (∀ w, (Instr.findKey 9 (strVal k) es.toList).run Tryz.prog w = .ok ((posE k ents).bind fun j => (getE k ents).map fun v => (j, v)) w) →
      (match posE k ents with | some j => es' = es.eraseIdxIfInBounds j | none => es' = es) →
      ∀ K : Value → Heap → Prop, ExecV Tryz.prog (Builtin.delete_ #[106, 9] 0 #[.map (some m), strVal k]) H K = K (.tuple #[]) (upd H m (.map es' c)) := by
    intro es' hf he K
    apply ExecV.eq'
    intro w hw
    refine ⟨{ w with heap := upd H m (.map es' c) }, ?_, ⟨rfl, rfl, rfl⟩, rfl⟩
    have hgo : (getObj m).run Tryz.prog w = .ok (.map es c) w := by simp [getObj, Sem.run, hw, h1]
    have hc := check9 es.isEmpty ⟨k.toArray⟩ w
    have e0 : (#[106, 9] : Array TypeId)[0]? = some 106 := rfl
    have e1 : (#[Value.map (some m), strVal k] : Array Value)[0]? = some (.map (some m)) := rfl
    have e2 : (#[Value.map (some m), strVal k] : Array Value)[1]? = some (strVal k) := rfl
    have hf' := hf w
    simp only [Builtin.delete_, e0, e1, e2, Sem.run_bind, run_underlying' und106, Result.andThen_ok, hgo]
    rw [show strVal k = .string ⟨k.toArray⟩ from rfl, hc]
    simp only [Result.andThen_ok]
    rw [show (Value.string ⟨k.toArray⟩) = strVal k from rfl, hf']
    cases hp : posE k ents with
    | none =>
      rw [hp] at he
      simp only [] at he
      subst he
      simp only [Option.bind_none, Result.andThen_ok, Sem.run_bind, hset w _ hw, Sem.run_pure]
    | some j =>
      rw [hp] at he hs
      simp only [] at he
      subst he
      obtain ⟨u, hu⟩ := Option.isSome_iff_exists.1 hs.symm
      simp only [hu, Option.bind_some, Option.map_some, Result.andThen_ok, Sem.run_bind, hset w _ hw, Sem.run_pure]
  cases hp : posE k ents with
  | none =>
    refine ⟨upd H m (.map es c), ⟨es, c, upd_same (lt_of_some h1), by rw [delE_none hp]; exact h2, h3, h4⟩, Frm.upd _ (by simp), by simp, hrun es (fun w => find_run h2 w) (by rw [hp])⟩
  | some j =>
    obtain ⟨hj, hde⟩ := delE_some hp
    have hlen : es.size = ents.length := by
      have := congrArg List.length h2
      simpa [entsOf] using this
    have hjs : j < es.size := by omega
    have htl : (es.eraseIdxIfInBounds j).toList = es.toList.eraseIdx j := by
      simp [Array.eraseIdxIfInBounds, hjs]
    have hsub : (es.toList.eraseIdx j).Sublist es.toList := List.eraseIdx_sublist _ _
    refine ⟨upd H m (.map (es.eraseIdxIfInBounds j) c), ⟨_, c, upd_same (lt_of_some h1), ?_, ?_, fun e he => ?_⟩, Frm.upd _ (by simp), by simp, hrun _ (fun w => find_run h2 w) (by rw [hp])⟩
    · rw [hde]
      unfold entsOf at h2 ⊢
      rw [htl, map_eraseIdx, h2, map_eraseIdx]
    · rw [htl]
      exact h3.sublist (hsub.map _)
    · rw [htl] at he
      exact h4 e (hsub.subset he)
theorem del_ok {H : Heap} {m N : Nat} {E : List Ent} {key : List UInt8} (hE : Ents H m N E) (hm : ∀ e ∈ E, e.b ≠ m) (hl : key.length < 2 ^ 30) (ht : ∀ b ∈ key, tok b.toNat = true) (hc : canonG true key = key) :
    CallsH Tryz.prog 117 #[.map (some m), strVal key] H fun x H' => Ents H' m N (delEnt key E) ∧ Frm [m] H H' ∧ H'.size = H.size := by
  apply s117
  unfold c117
  refine (canonId_ok (by omega) ht hc).mono ?_
  rintro x H1 ⟨rfl, rfl⟩
  obtain ⟨H', h1, h2, h3, h4⟩ := delete_of (k := key) hE.map
  rw [h4]
  refine ⟨⟨by rw [delEnt_pair]; exact h1, fun e he => ?_, hE.apart.sublist (delEnt_sub key E), fun e he => hE.few e ((delEnt_sub key E).subset he)⟩, h2, h3⟩
  have he' := (delEnt_sub key E).subset he
  exact (hE.strs e he').frm h2 (by rw [List.mem_singleton]; exact hm e he')
end Go.Cps
namespace Go.Cps
open Go Go.Proofs
def qpL : List UInt8 := [113, 117, 111, 116, 101, 100, 45, 112, 114, 105, 110, 116, 97, 98, 108, 101]
theorem encKey_tok : ∀ b ∈ encKey, tok b.toNat = true := by decide
theorem encKey_canon : canonG true encKey = encKey := by decide
theorem firstOf_ents (key : List UInt8) (E : List Ent) : firstOf key ((E.map fun e => (e.hd, e.pair.2)).map (·.1)) = firstOf key (E.map Ent.hd) := by
  rw [List.map_map]; rfl
theorem newPartN_ok {S : Stk} {mr tb : Nat} {m : MRf} {bd : List UInt8} {B : Nat} {ea ua : Addr} {s : St} {H : Heap} {mode : Option (List UInt8)} {ls : List (List UInt8 × List UInt8)} {b : List UInt8} (h : PR S mr tb m bd B ea ua s H)
    (hr : s.rest S = linesText ls ++ 13 :: 10 :: (b ++ modeTail bd mode)) (hls : ∀ kv ∈ ls, LineOk kv) (hn : ls.length ≤ 110) (hnw : Nowhere b (nldOf bd)) (ht0 : (dashOf bd).isPrefixOf (b ++ modeTail bd mode) = false) (hfull : ∀ t, mode = some t → FullT t) (htot : b.length < 2 ^ 38)
    (hk : firstOf encKey (hdrOf ls) = [] ∨ (firstOf encKey (hdrOf ls) = qpL ∧ ∃ t, mode = some t)) :
    CallsH Tryz.prog 96 #[.pointer (some ⟨mr, 0, none⟩), .bool false, .int .i64 10485760, .int .i64 10000] H fun x H' => ∃ pt hm N E, x = .tuple #[.pointer (some ⟨pt, 0, none⟩), .nilIface] ∧ Ents H' hm N E ∧ Frm S.ids H H' ∧ H.size ≤ pt ∧ pt < H'.size ∧ (∀ x ∈ Ents.blks hm E, H.size ≤ x ∧ x ≠ pt) ∧ H'[mr]? = some (.cells m.cells 127 (0, 0)) ∧
      ((firstOf encKey (hdrOf ls) = [] ∧ E.map Ent.hd = hdrOf ls ∧ ∃ s', RB (rawEnv S mr tb m bd B ea ua mode pt hm) b 0 0 .go false s' H') ∨
       (firstOf encKey (hdrOf ls) = qpL ∧ E.map Ent.hd = delH encKey (hdrOf ls) ∧ ∃ q F t lv, QR (qEnv S mr tb m bd B ea ua mode pt hm q) F q t false lv [] H' ∧ t.rest = b ∧ H.size ≤ q ∧ H.size ≤ F.b ∧ H.size ≤ F.bf ∧ q ≠ pt)) := by
  have hidl := h.rd.ids_lt
  have hmrl := lt_of_some h.ma.hm
  have h16 := h.er.b16
  have hbase := h.base
  apply s96
  simp only [c96, NewMap]
  have f1 : Frm [] H (H.push (.map #[] 0)) := Frm.push _ _ _
  have z1 : (H.push (.map #[] 0)).size = H.size + 1 := by simp
  generalize H.push (.map #[] 0) = H1 at *
  have e : fillV #[(0, 1), (1, 1), (2, 1), (3, 1), (4, 1), (5, 1), (6, 1), (7, 1), (8, 1)] #[(.map none), (.pointer none), (.string ⟨#[]⟩), (.map none), .nilIface, (.int .i64 0), (.int .i64 0), .nilIface, .nilIface] [(0, .map (some H.size)), (1, .pointer (some ⟨mr, 0, none⟩))] = some (ptCells ⟨.map (some H.size), .string ⟨#[]⟩, .map none, .nilIface⟩ mr 0 0 .nilIface .nilIface) := by
    rw [fillV_cons rfl rfl (by simp), fillV_cons rfl rfl (by simp), fillV_nil]; rfl
  simp only [e, Option.map_some, Q6, New, Value.cells]
  have hp2 := push_same H1 (.cells (ptCells ⟨.map (some H.size), .string ⟨#[]⟩, .map none, .nilIface⟩ mr 0 0 .nilIface .nilIface) 148 (0, 0))
  have f2 : Frm [] H1 (H1.push (.cells (ptCells ⟨.map (some H.size), .string ⟨#[]⟩, .map none, .nilIface⟩ mr 0 0 .nilIface .nilIface) 148 (0, 0))) := Frm.push _ _ _
  have z2 : (H1.push (.cells (ptCells ⟨.map (some H.size), .string ⟨#[]⟩, .map none, .nilIface⟩ mr 0 0 .nilIface .nilIface) 148 (0, 0))).size = H1.size + 1 := by simp
  generalize H1.push (.cells (ptCells ⟨.map (some H.size), .string ⟨#[]⟩, .map none, .nilIface⟩ mr 0 0 .nilIface .nilIface) 148 (0, 0)) = H2 at *
  have f02 : Frm [] H H2 := f1.trans f2
  have h2 : PR S mr tb m bd B ea ua s H2 := h.ids (h.rd.frm f02 (by simp) (by simp) (by simp)) (f02.mono (by simp))
  have hpi : H1.size ∉ S.ids := fun hm => by have := hidl _ hm; omega
  have hpv : blk S.v ≠ some H1.size := fun hm => by have := h.vlt _ hm; omega
  refine (populate_ok hp2 h2.ma h2.rd h2.er.full h2.four h2.vlt h2.tbf hpi hpv (by omega) hr hls hn).mono ?_
  rintro x H3 ⟨hm, N, E, s3, rfl, hp3, hE3, hhd, h3, hr3, f3, hb3⟩
  have hpi2 : H1.size ∉ mr :: tb :: S.ids := fun hmm => by have := h.lt _ hmm; omega
  have hma3 : MRAt S mr tb m bd H3 := h2.ma.frm f3 (fun hmm => by
    rcases List.mem_cons.1 hmm with e | e
    · omega
    · exact h.ma.hmr e) (fun hmm => by
    rcases List.mem_cons.1 hmm with e | e
    · have := h.tbl; omega
    · exact h.ma.ht (by simp [e]))
  have her3 : Errs B ea ua H3 := h2.er.frm f3 (fun x hx => by
    rcases List.mem_cons.1 hx with rfl | hx
    · omega
    · exact h.low x (by simp [hx]))
  simp only [nilV2_neq_nil, Q0, Q1, Q2, Q3, Q4, Q5, Q6, Q7, Q8, Q9, Qa, Qb, Qc, Qd, Qe, Qf, Qg, Qh, Qi, Qj]
  have e2 : fillV #[(0, 1)] #[(.pointer none)] [(0, .pointer (some ⟨H1.size, 0, none⟩))] = some #[.pointer (some ⟨H1.size, 0, none⟩)] := by
    rw [fillV_cons rfl rfl (by simp), fillV_nil]; rfl
  simp only [e2, Option.map_some, Q0, Q1, Q2, Q3, Q4, Q5, Q6, Q7, Q8, Q9, Qa, Qb, Qc, Qd, Qe, Qf, Qg, Qh, Qi, Qj]
  refine Store_of hp3 (by simp [ptCells]) rfl fun H4 hp4 f4 z4 => ?_
  have h4 : RdAt S s3 H4 := h3.frm f4 (fun x hx => by rw [List.mem_singleton]; rintro rfl; exact hpi hx) (fun x hx => by rw [List.mem_singleton]; rintro rfl; exact hpv hx) (by rw [List.mem_singleton]; omega)
  have hsz3 := f3.size
  have hpt4 : hm ≠ H1.size ∧ H.size ≤ hm := by have := hb3 hm (by simp [Ents.blks]); omega
  have hRB : RB (rawEnv S mr tb m bd B ea ua mode H1.size hm) b 0 0 .go false s3 H4 := by
    refine { rd := h4, ma := hma3.frm f4 (by rw [List.mem_singleton]; omega) (by rw [List.mem_singleton]; have := h.tbl; omega), hp := ?_, er := her3.frm f4 (by simp; omega), bdr := h.bdr, rest := ?_, nw := hnw, t0 := fun _ => ?_, nb := Nat.zero_le _, nk := Nat.zero_le _, full := fun t ht => ⟨hfull t ht, rfl, by simp, by simp⟩, cut := fun _ => ⟨by simp, by simp⟩, tot := by simpa using htot, low := fun x hx => ?_, hpt := hpi2, hpv := hpv, hE := h.hE }
    · simp only [ptCells, Qt, Qu, Qv] at hp4
      exact hp4
    · rw [show (rawEnv S mr tb m bd B ea ua mode H1.size hm).S = S from rfl, hr3]
      rfl
    · exact ht0
    · rcases List.mem_cons.1 hx with rfl | hx
      · show B ≤ H1.size; omega
      · exact h.low x hx
  have hE4 : Ents H4 hm N E := hE3.frm f4 (fun x hx => by have := hb3 x hx; rw [List.mem_singleton]; omega)
  have hF4 : Frm S.ids H H4 := ((f02.mono (by simp)).up f3 (fun x hx => by
      rcases List.mem_cons.1 hx with rfl | hx
      · exact .inr (by omega)
      · exact .inl hx)).up f4 (fun x hx => by rw [List.mem_singleton] at hx; subst hx; exact .inr (by omega))
  have hblk : ∀ x ∈ Ents.blks hm E, H.size ≤ x ∧ x ≠ H1.size := fun x hx => by have := hb3 x hx; omega
  have hpr0 : (rawEnv S mr tb m bd B ea ua mode H1.size hm).P = ⟨.map (some hm), .string ⟨#[]⟩, .map none, .iface 189 (.agg #[.pointer (some ⟨H1.size, 0, none⟩)])⟩ := rfl
  have hc0 : ∀ {H' : Heap} {s'}, RB (rawEnv S mr tb m bd B ea ua mode H1.size hm) b 0 0 .go false s' H' → cellH H' ⟨H1.size, 0, none⟩ = some (.map (some hm)) ∧ cellH H' ⟨H1.size, 4, none⟩ = some (.iface 189 (.agg #[.pointer (some ⟨H1.size, 0, none⟩)])) := fun hh => by
    have h5 := hh.hp
    have h6 : H1.size = (rawEnv S mr tb m bd B ea ua mode H1.size hm).pt := rfl
    rw [← h6] at h5
    exact ⟨by rw [cellH_of h5]; rfl, by rw [cellH_of h5]; rfl⟩
  have hsz4 : H1.size < H4.size := by omega
  refine ⟨fun _ H' => ∃ N E, Ents H' hm N E ∧ Frm S.ids H H' ∧ H1.size < H'.size ∧ (∀ x ∈ Ents.blks hm E, H.size ≤ x ∧ x ≠ H1.size) ∧ H'[mr]? = some (.cells m.cells 127 (0, 0)) ∧
      ((firstOf encKey (hdrOf ls) = [] ∧ E.map Ent.hd = hdrOf ls ∧ ∃ s', RB (rawEnv S mr tb m bd B ea ua mode H1.size hm) b 0 0 .go false s' H') ∨
       (firstOf encKey (hdrOf ls) = qpL ∧ E.map Ent.hd = delH encKey (hdrOf ls) ∧ ∃ q F t lv, QR (qEnv S mr tb m bd B ea ua mode H1.size hm q) F q t false lv [] H' ∧ t.rest = b ∧ H.size ≤ q ∧ H.size ≤ F.b ∧ H.size ≤ F.bf ∧ q ≠ H1.size)), ?_, ?_⟩
  · simp only [Q0, Q1, Q2, Q3, Q4, Q5, Q6, Q7, Q8, Q9, Qa, Qb, Qc, Qd, Qe, Qf, Qg, Qh, Qi, Qj, Bool.not_false, (hc0 hRB).1]
    have hG := hE4.toG (D := []) (by simp)
    refine (get_ok (key := encKey) hG (by decide) encKey_tok encKey_canon).mono ?_
    rintro x H5 ⟨rfl, f5⟩
    rw [firstOf_ents, hhd]
    have hRB5 := hRB.frm f5 (by simp)
    have hE5 := hE4.frm f5 (by simp)
    refine (eqFold_ok (t := qpL) (by decide) ?_ (by decide)).mono ?_
    · rcases hk with hk | ⟨hk, _⟩
      · exact .inr ⟨hk, by decide⟩
      · exact .inl hk
    rintro x H6 ⟨rfl, rfl⟩
    rcases hk with hk | ⟨hk, tl, hmode⟩
    · have hd : decide (firstOf encKey (hdrOf ls) = qpL) = false := by rw [decide_eq_false_iff_not, hk]; decide
      rw [hd]
      simp only [Q0, Q1, Q2, Q3, Q4, Q5, Q6, Q7, Q8, Q9, Qa, Qb, Qc, Qd, Qe, Qf, Qg, Qh, Qi, Qj]
      exact ⟨N, E, hE5, hF4.trans (f5.mono (by simp)), by have := f5.size; omega, hblk, hRB5.ma.hm, .inl ⟨hk, hhd, s3, hRB5⟩⟩
    · have hd : decide (firstOf encKey (hdrOf ls) = qpL) = true := by rw [decide_eq_true_iff]; exact hk
      rw [hd]
      simp only [Q0, Q1, Q2, Q3, Q4, Q5, Q6, Q7, Q8, Q9, Qa, Qb, Qc, Qd, Qe, Qf, Qg, Qh, Qi, Qj, (hc0 hRB5).1]
      have hbm : ∀ e ∈ E, e.b ≠ hm := fun e he hbm => by
        obtain ⟨cells, g1, _⟩ := hE5.strs e he
        obtain ⟨es, c, g2, _⟩ := hE5.map
        rw [hbm, g2] at g1
        cases g1
      refine (del_ok (key := encKey) hE5 hbm (by decide) encKey_tok encKey_canon).mono ?_
      rintro x H7 ⟨hE7, f7, z7⟩
      have hidm : hm ∉ (rawEnv S mr tb m bd B ea ua mode H1.size hm).all := fun hmm => by
        simp only [REnv.all, rawEnv] at hmm
        rcases List.mem_cons.1 hmm with e | e
        · exact hpt4.1 e
        · have := h.lt _ e; omega
      have hRB7 := hRB5.frm f7 (fun x hx => by
        rw [List.mem_singleton] at hx
        subst hx
        exact ⟨by show B ≤ _; omega, hidm, fun hm => by have := h.vlt _ hm; omega⟩)
      simp only [Q0, Q1, Q2, Q3, Q4, Q5, Q6, Q7, Q8, Q9, Qa, Qb, Qc, Qd, Qe, Qf, Qg, Qh, Qi, Qj, (hc0 hRB7).2]
      have hs5 := f5.size
      have hB7 : H.size ≤ H7.size := by have := hF4.size; omega
      refine (qNew_ok hRB7 ⟨tl, hmode⟩ (fun x hx => ?_) (fun x hx => by have := h.vlt _ hx; omega) (by show B ≤ _; omega)).mono ?_
      · simp only [REnv.all, rawEnv] at hx
        rcases List.mem_cons.1 hx with e | e
        · omega
        · have := h.lt _ e; omega
      rintro x H8 ⟨q, F, t, rfl, hQ8, hrest, f8, hq8, hFb, hFbf⟩
      have hp8 := hQ8.qa.rb.hp
      have hp8' : H8[H1.size]? = some (.cells (ptCells ⟨.map (some hm), .string ⟨#[]⟩, .map none, .iface 189 (.agg #[.pointer (some ⟨H1.size, 0, none⟩)])⟩ mr t.n t.total (skV (.iface 138 (.pointer (some ea))) (.iface 138 (.pointer (some ua))) t.ev) (if t.re then .iface 138 (.pointer (some ua)) else .nilIface)) 148 (0, 0)) := hp8
      refine Store_of hp8' (by simp [ptCells]) rfl fun H9 hp9 f9 z9 => ?_
      simp only [ptCells, Qt, Qu, Qv] at hp9
      have hmr8 := hQ8.qa.rb.ma.hm
      have hmr9 : H9[mr]? = some (.cells m.cells 127 (0, 0)) := f9.get hmr8 (by rw [List.mem_singleton]; omega)
      have hQ9 : QR (qEnv S mr tb m bd B ea ua mode H1.size hm q) F q t false (.slice none 0 0) [] H9 := QR.env (P' := ⟨.map (some hm), .string ⟨#[]⟩, .map none, .iface 192 (.pointer (some ⟨q, 0, none⟩))⟩) hQ8 hp9 hmr9 (f9.mono (by simp)) ⟨rfl, rfl, rfl, rfl, rfl⟩
      have hE8 := hE7.frm f8 (by simp)
      have hsub : ∀ x ∈ Ents.blks hm (delEnt encKey E), x ∈ Ents.blks hm E := fun x hx => by
        simp only [Ents.blks, List.mem_cons, List.mem_map] at hx ⊢
        rcases hx with hx | ⟨e, he, hx⟩
        · exact .inl hx
        · exact .inr ⟨e, (delEnt_sub encKey E).subset he, hx⟩
      have hE9 := hE8.frm f9 (fun x hx => by rw [List.mem_singleton]; exact (hblk x (hsub x hx)).2)
      refine ⟨N, _, hE9, ?_, ?_, fun x hx => hblk x (hsub x hx), hmr9, .inr ⟨hk, by rw [delEnt_hd, hhd], q, F, t, _, hQ9, hrest, by omega, by omega, by omega, by omega⟩⟩
      · exact (((hF4.trans (f5.mono (by simp))).up f7 (fun x hx => by rw [List.mem_singleton] at hx; subst hx; exact .inr hpt4.2)).trans (f8.mono (by simp))).up f9 (fun x hx => by rw [List.mem_singleton] at hx; subst hx; exact .inr (by omega))
      · have := f8.size; omega
  · rintro _ H5 ⟨N, E, g1, g2, g3, g4, g5, g6⟩
    exact ⟨H1.size, hm, N, E, rfl, g1, g2, by omega, g3, g4, g5, g6⟩
end Go.Cps
namespace Go.Cps
open Go Go.Proofs
theorem QR.frm {e : REnv} {F : QF} {q : Nat} {t : QSt} {rerr : Bool} {lv : Value} {ln : List UInt8} {H H' : Heap} {X : List Nat} (h : QR e F q t rerr lv ln H) (f : Frm X H H') (hx : ∀ x ∈ X, x ≠ q ∧ x ≠ F.b ∧ x ≠ F.bf ∧ e.B ≤ x ∧ x ∉ e.all ∧ blk e.S.v ≠ some x) : QR e F q t rerr lv ln H' :=
  ⟨h.qa.frm f (fun x hm => (hx x hm).2), f.get h.hq (fun hm => (hx _ hm).1 rfl), h.lb.frm' f (fun hne b hb hm => by
    rcases h.lr with h | ⟨o', n', c', rfl, _⟩
    · exact hne h
    · simp only [blk_slice, Option.map_some, Option.some.injEq] at hb
      exact (hx _ hm).2.2.1 hb.symm), h.lr, h.one, h.fin, h.dq⟩
abbrev QIn := PartIn × Option (List UInt8)
structure GoodQ (bd : List UInt8) (p : QIn) : Prop where
  good : GoodIn bd p.1
  raw : p.2 = none → firstOf encKey (hdrOf p.1.1) = []
  enc : ∀ d, p.2 = some d → firstOf encKey (hdrOf p.1.1) = qpL ∧ QText p.1.2 d
def hdN (p : QIn) : List Hdr := match p.2 with | none => hdrOf p.1.1 | some _ => delH encKey (hdrOf p.1.1)
def bodyN (p : QIn) : List UInt8 := match p.2 with | none => p.1.2 | some d => d
def resN (p : QIn) : PartL := (sortHs (hdN p), bodyN p)
theorem delH_sub (k : List UInt8) : ∀ l : List Hdr, (delH k l).Sublist l
  | [] => List.Sublist.slnil
  | p :: r => by
    simp only [delH]
    split
    · exact List.sublist_cons_self _ _
    · exact (delH_sub k r).cons₂ _
theorem hdN_sub (p : QIn) : (hdN p).Sublist (hdrOf p.1.1) := by
  unfold hdN
  cases p.2 with
  | none => exact List.Sublist.refl _
  | some d => exact delH_sub _ _
theorem hdN_nodup (p : QIn) : ((hdN p).map (·.1)).Nodup := (hdrOf_nodup p.1.1).sublist ((hdN_sub p).map _)
structure Readable (S : Stk) (mr tb : Nat) (m : MRf) (bd : List UInt8) (B : Nat) (ea ua : Addr) (tl : List UInt8) (X : List Nat) (hs : List Hdr) (d : List UInt8) (pt : Nat) (H0 H : Heap) : Prop where
  head : ∃ hm N E P n total ev rv, H[pt]? = some (.cells (ptCells P mr n total ev rv) 148 (0, 0)) ∧ P.hdr = .map (some hm) ∧ Ents H hm N E ∧ E.map Ent.hd = hs
  new : ∀ x ∈ X, H0.size ≤ x ∧ x < H.size
  mem : pt ∈ X
  read : ∀ H1, Frm [] H H1 → CallsH Tryz.prog 68 #[.iface 116 (.pointer (some ⟨pt, 0, none⟩))] H1 fun x H' => ∃ k out, x = .tuple #[out, .bool true] ∧ OwnB H' k out d ∧ Frm (X ++ S.ids) H1 H' ∧ (∀ g, k = some g → H1.size ≤ g) ∧
    ∀ H2 Y, Frm Y H' H2 → (∀ y ∈ Y, B ≤ y ∧ y ∉ X ++ mr :: tb :: S.ids ∧ blk S.v ≠ some y) → Closes S mr tb m bd B ea ua (nldOf bd ++ tl) X H2
theorem nextN_ok {S : Stk} {mr tb : Nat} {m : MRf} {bd : List UInt8} {B : Nat} {ea ua : Addr} {H : Heap} {X : List Nat} {pre : List UInt8} {p : QIn} {tl : List UInt8} (hcl : Closes S mr tb m bd B ea ua (pre ++ (dashOf bd ++ 13 :: 10 :: (partIn p.1 ++ (nldOf bd ++ tl)))) X H) (hb : GoodBd bd)
    (hpre : (m.parts = 0 ∧ pre = []) ∨ (0 < m.parts ∧ m.parts < 2 ^ 40 ∧ pre = [13, 10])) (hp : GoodQ bd p) (htl : FullT tl) (hX : ∀ x ∈ X, x < H.size) (hbr : BdR bd) :
    CallsH Tryz.prog 71 #[.pointer (some ⟨mr, 0, none⟩), .bool false, .int .i64 10485760, .int .i64 10000] H fun x H' => ∃ pt X' m', x = .tuple #[.pointer (some ⟨pt, 0, none⟩), .nilIface] ∧ Readable S mr tb m' bd B ea ua tl X' (hdN p) (bodyN p) pt H H' ∧ m'.parts = m.parts + 1 ∧ Frm (mr :: X ++ S.ids) H H' := by
  obtain ⟨⟨ls, b⟩, od⟩ := p
  have hg := hp.good
  have hd0 : (dashOf bd).isPrefixOf (b ++ modeTail bd (some tl)) = false := dash_tail hbr hg.dash
  refine next_ok (pre := pre) (r := partIn (ls, b) ++ (nldOf bd ++ tl)) (by simpa [dashOf] using hcl) hb hpre fun H1 s1 h1 hr1 f1 => ?_
  have hk : firstOf encKey (hdrOf ls) = [] ∨ (firstOf encKey (hdrOf ls) = qpL ∧ ∃ t, (some tl : Option (List UInt8)) = some t) := by
    cases od with
    | none => exact .inl (hp.raw rfl)
    | some d => exact .inr ⟨(hp.enc d rfl).1, tl, rfl⟩
  refine (newPartN_ok h1 (ls := ls) (b := b) (mode := some tl) (by rw [hr1]; simp [partIn, modeTail]) hg.lines hg.few hg.nw hd0 (fun t ht => by cases ht; exact htl) hg.small hk).mono ?_
  rintro x H2 ⟨pt, hm, N, E, rfl, hE, f2, hge, hlt, hblk, hmr2, hcase⟩
  refine ⟨⟨pt, 0, none⟩, rfl, hmr2, fun H3 hm3 f3 z3 => ?_⟩
  have hmrl := lt_of_some h1.ma.hm
  have hs1 := f1.size
  have hs2 := f2.size
  have hE3 := hE.frm f3 (fun x hx => by have := (hblk x hx).1; rw [List.mem_singleton]; omega)
  have hfr : Frm (mr :: X ++ S.ids) H H3 := (f1.trans (f2.mono (fun x hx => by simp [hx]))).trans (f3.mono (by simp))
  have hptmr : pt ≠ mr := by omega
  have hv3 : ∀ {H' : Heap}, H3.size ≤ H'.size → (∀ x, blk S.v = some x → x < H'.size) ∧ tb < H'.size ∧ B ≤ H'.size := fun {H'} hh => ⟨fun x hx => by have := h1.vlt x hx; omega, by have := h1.tbl; omega, by have := h1.base; omega⟩
  have hlow3 : ∀ x ∈ mr :: tb :: S.ids, x < H3.size := fun x hx => by have := h1.lt x hx; omega
  rcases hcase with ⟨hk1, hhd, s', hRB⟩ | ⟨hk1, hhd, q, F, t, lv, hQR, hrest, hq1, hq2, hq3, hq4⟩
  · have hod : od = none := by
      cases od with
      | none => rfl
      | some d =>
        have := (hp.enc d rfl).1
        rw [hk1] at this
        exact absurd this (by decide)
    subst hod
    have hRB3 := hRB.setm (m' := { m with parts := m.parts + 1, cur := .pointer (some ⟨pt, 0, none⟩) }) hm3 f3 ⟨rfl, rfl, rfl, rfl, rfl⟩
    have hp3 := hRB3.hp
    refine ⟨pt, [pt], { m with parts := m.parts + 1, cur := .pointer (some ⟨pt, 0, none⟩) }, rfl, ⟨⟨hm, N, E, _, _, _, _, _, hp3, rfl, hE3, hhd⟩, fun x hx => ?_, by simp, fun H4 f4 => ?_⟩, rfl, hfr⟩
    · rw [List.mem_singleton] at hx; subst hx; omega
    · have hRB4 := hRB3.frm f4 (by simp)
      obtain ⟨g1, g2, g3⟩ := hv3 f4.size
      refine (allRaw_ok hRB4 g1 g2 g3).mono ?_
      rintro x H5 ⟨k, out, d, rfl, hout, _, hd, hcl5, f5, hk5⟩
      have hdb := hd rfl
      subst hdb
      obtain ⟨total, s'', hRB5⟩ := hcl5 tl rfl
      refine ⟨k, out, rfl, hout, by simpa using f5, hk5, fun H6 Y f6 hY => ?_⟩
      have hRB6 := hRB5.frm f6 (fun y hy => by
        obtain ⟨y1, y2, y3⟩ := hY y hy
        refine ⟨y1, fun hm => y2 ?_, y3⟩
        simpa [rawEnv] using hm)
      obtain ⟨w1, w2, w3⟩ := hv3 (Nat.le_trans f4.size (Nat.le_trans f5.size f6.size))
      exact closeRaw_ok hRB6 h1.tbf w1 w2 w3 rfl
  · have hod : ∃ d, od = some d := by
      cases od with
      | some d => exact ⟨d, rfl⟩
      | none =>
        have := hp.raw rfl
        rw [hk1] at this
        exact absurd this (by decide)
    obtain ⟨d, rfl⟩ := hod
    have hqt := (hp.enc d rfl).2
    have hql := hqt.le
    have hbs : b.length < 2 ^ 38 := hg.small
    have hp2 := hQR.qa.rb.hp
    have hp3 := f3.get hp2 (by rw [List.mem_singleton]; exact hptmr)
    have hQR3 : QR (qEnv S mr tb { m with parts := m.parts + 1, cur := .pointer (some ⟨pt, 0, none⟩) } bd B ea ua (some tl) pt hm q) F q t false lv [] H3 :=
      QR.env (P' := ⟨.map (some hm), .string ⟨#[]⟩, .map none, .iface 192 (.pointer (some ⟨q, 0, none⟩))⟩) hQR hp3 hm3 (f3.mono (by simp)) ⟨rfl, rfl, rfl, rfl, rfl⟩
    have lq := lt_of_some hQR3.hq
    have lF := hQR3.qa.low
    have hdq := hQR3.dq
    refine ⟨pt, [q, F.b, F.bf, pt], { m with parts := m.parts + 1, cur := .pointer (some ⟨pt, 0, none⟩) }, rfl, ⟨⟨hm, N, E, _, _, _, _, _, hp3, rfl, hE3, hhd⟩, fun x hx => ?_, by simp, fun H4 f4 => ?_⟩, rfl, hfr⟩
    · simp only [List.mem_cons, List.not_mem_nil, or_false] at hx
      rcases hx with rfl | rfl | rfl | rfl <;> omega
    · have hQR4 := hQR3.frm f4 (by simp)
      obtain ⟨g1, g2, g3⟩ := hv3 f4.size
      have hs4 := f4.size
      refine (allQ_ok (e := qEnv S mr tb { m with parts := m.parts + 1, cur := .pointer (some ⟨pt, 0, none⟩) } bd B ea ua (some tl) pt hm q) (q := q) (D := d) rfl hQR4 (by rw [hrest]; exact hqt) (by simp only [] at hql; omega) g3 (fun x hx => ?_) g1).mono ?_
      · simp only [REnv.all, qEnv] at hx
        rcases List.mem_cons.1 hx with e | e
        · omega
        · have := hlow3 x e; omega
      rintro x H5 ⟨k, out, t', lv', rfl, hout, hQR5, f5, hk5⟩
      refine ⟨k, out, rfl, hout, f5.mono (fun x hx => ?_), hk5, fun H6 Y f6 hY => ?_⟩
      · simp only [QF.ids, qEnv, List.mem_cons] at hx
        simp only [List.cons_append, List.nil_append, List.mem_cons]
        rcases hx with h | h | h | h | h <;> simp [h]
      · have hQR6 := hQR5.frm f6 (fun y hy => by
          obtain ⟨y1, y2, y3⟩ := hY y hy
          refine ⟨fun e => y2 (by simp [e]), fun e => y2 (by simp [e]), fun e => y2 (by simp [e]), y1, fun hm => y2 ?_, y3⟩
          simp only [REnv.all, qEnv] at hm
          rcases List.mem_cons.1 hm with e | e
          · simp [e]
          · exact List.mem_append_right _ e)
        obtain ⟨w1, w2, w3⟩ := hv3 (Nat.le_trans f4.size (Nat.le_trans f5.size f6.size))
        exact closeQ_ok hQR6 h1.tbf w1 w2 w3 rfl
end Go.Cps
namespace Go.Cps
open Go Go.Proofs
theorem OwnS.news {α : Type} {w T : Nat} {R : List Nat → Heap → α → List Value → Prop} (hR : RelOk R) {D : List Nat} {H : Heap} {k : Option Nat} {v : Value} {l : List α} (h : OwnS w T R D H k v l) : ∀ X : List Nat, (∀ x ∈ X, H.size ≤ x) → OwnS w T R (X ++ D) H k v l
  | [], _ => h
  | x :: X, hx => (OwnS.news hR h X (fun y hy => hx y (by simp [hy]))).new hR (hx x (by simp))
theorem bodyd59 : hasBody Tryz.prog 59 = true := by kernel_rfl
theorem partStepN_ok {S : Stk} {mr tb : Nat} {bd : List UInt8} {B : Nat} {ea ua : Addr} {Hs H : Heap} {n : Nat} {rs : List PartL} {p : QIn} {tl : List UInt8} {k : Option Nat} {out : Value} {X : List Nat} {m : MRf} {E0 R1 K1 : Value → Heap → Prop} (hgb : GoodBd bd) (hbr : BdR bd)
    (hown : OwnS 2 39 PartR (X ++ mr :: S.ids) H k out rs) (hcl : Closes S mr tb m bd B ea ua ((if n = 0 then [] else [13, 10]) ++ (dashOf bd ++ 13 :: 10 :: (partIn p.1 ++ (nldOf bd ++ tl)))) X H) (hnp : m.parts = n) (hfr : Frm (mr :: S.ids) Hs H) (hkB : ∀ g, k = some g → Hs.size ≤ g) (hXB : ∀ x ∈ X, Hs.size ≤ x ∧ x < H.size)
    (hlow : (∀ x ∈ mr :: tb :: S.ids, x < Hs.size) ∧ (∀ x, blk S.v = some x → x < Hs.size) ∧ B ≤ Hs.size) (hp : GoodQ bd p) (htl : FullT tl) (hn : n < 2 ^ 35) (hrs : rs.length < 2 ^ 36)
    (hK : ∀ k' out' X' m' H', OwnS 2 39 PartR (X' ++ mr :: S.ids) H' k' out' (rs ++ [resN p]) → Closes S mr tb m' bd B ea ua (nldOf bd ++ tl) X' H' → m'.parts = n + 1 → Frm (mr :: S.ids) Hs H' → (∀ g, k' = some g → Hs.size ≤ g) → (∀ x ∈ X', Hs.size ≤ x ∧ x < H'.size) → K1 out' H') :
    CallV Tryz.prog (.func (.func 59) #[.pointer (some ⟨mr, 0, none⟩)] #[]) #[] H fun x12 H =>
    Get (extractV x12 0) fun x13 =>
    Get (extractV x12 1) fun x14 =>
    Get (nilV2 .neq .nilIface x14) fun x16 =>
    Br x16 (
    CallsH Tryz.prog 66 #[x14] H fun x19 H => E0 x19 H) (
    CallsH Tryz.prog 67 #[x13] H fun x21 H =>
    Get (some (.iface 116 x13)) fun x24 =>
    CallsH Tryz.prog 68 #[x24] H fun x25 H =>
    Get (extractV x25 0) fun x26 =>
    Get (extractV x25 1) fun x27 =>
    Get ((fillV #[(0, 1), (1, 1)] #[(.slice none 0 0), (.slice none 0 0)] [(0, x21), (1, x26)]).map .agg) fun x31 =>
    Get (Instr.fill (fun j => some (j * 2, 2)) ((Array.range (1 * 2)).map ((#[(.slice none 0 0), (.slice none 0 0)] : Array Value)[· % 2]!)) [(0, x31)]) fun cs => NewSl cs 39 1 H fun x32 H =>
    Append 39 2 48 #[(.slice none 0 0), (.slice none 0 0)] out x32 H fun x33 H =>
    Get (unV .not x27) fun x35 =>
    Br x35 (R1 x33 H) (K1 x33 H)) := by
  have hHs := hfr.size
  refine ⟨59, #[.pointer (some ⟨mr, 0, none⟩)], #[], rfl, bodyd59, ?_⟩
  apply s59
  unfold c59
  apply s72
  unfold c72
  have hpre : (m.parts = 0 ∧ (if n = 0 then [] else [13, 10]) = ([] : List UInt8)) ∨ (0 < m.parts ∧ m.parts < 2 ^ 40 ∧ (if n = 0 then [] else [13, 10]) = ([13, 10] : List UInt8)) := by
    by_cases h0 : n = 0
    · exact .inl ⟨by omega, by rw [if_pos h0]⟩
    · exact .inr ⟨by omega, by omega, by rw [if_neg h0]⟩
  refine (nextN_ok hcl hgb hpre hp htl (fun x hx => (hXB x hx).2) hbr).mono ?_
  rintro x H1 ⟨pt, X', m', rfl, hrd, hm'p, f1⟩
  obtain ⟨hm, N, E, P, n0, total, ev, rv, hpc, hPh, hE, hhd⟩ := hrd.head
  simp only [Q0, Q1, Q2, Q3, Q4, Q5, Q6, Q7, Q8, Q9, Qa, Qb, Qc, Qd, Qe, Qf, Qg, Qh, Qi, Qj, nilV2_neq_nil]
  have f1' : Frm (mr :: S.ids) Hs H1 := hfr.up f1 (fun x hx => by
    simp only [List.cons_append, List.mem_cons, List.mem_append] at hx
    rcases hx with rfl | hx | hx
    · exact .inl (by simp)
    · exact .inr (hXB x hx).1
    · exact .inl (by simp [hx]))
  have hs1 := f1'.size
  have hXn := hrd.new
  have hDlt : ∀ x ∈ X' ++ mr :: S.ids, x < H1.size := fun x hx => by
    rcases List.mem_append.1 hx with hx | hx
    · exact (hXn x hx).2
    · have := hlow.1 x (by
        rcases List.mem_cons.1 hx with rfl | hx
        · simp
        · simp [hx])
      omega
  -- what has come before, in the new heap, apart from the new part
  have hown1 : OwnS 2 39 PartR (X' ++ mr :: S.ids) H1 k out rs := by
    have hk : ∀ x ∈ mr :: X ++ S.ids, k ≠ some x := fun x hx e => by
      have := (hown.lt x e).2
      apply this
      simp only [List.cons_append, List.mem_cons, List.mem_append] at hx ⊢
      rcases hx with h | h | h
      · exact .inr (.inl h)
      · exact .inl h
      · exact .inr (.inr h)
    have h0 := hown.news Qw X' (fun x hx => (hXn x hx).1)
    have h1 := h0.frm Qw f1 (fun x hx => ⟨.inl (by
      simp only [List.cons_append, List.mem_cons, List.mem_append] at hx ⊢
      rcases hx with h | h | h
      · exact .inr (.inr (.inl h))
      · exact .inr (.inl h)
      · exact .inr (.inr (.inr h))), hk x hx⟩)
    exact h1.sub Qw (fun x hx => by
      simp only [List.mem_cons, List.mem_append] at hx ⊢
      rcases hx with h | h | h
      · exact .inl h
      · exact .inr (.inr (.inl h))
      · exact .inr (.inr (.inr h)))
  have hkl : ∀ x ∈ k.toList ++ (X' ++ mr :: S.ids), x < H1.size := fun x hx => by
    rcases List.mem_append.1 hx with h | h
    · exact (hown1.lt x (by simpa using h)).1
    · exact hDlt x h
  have hfew := hp.good.few
  have hsub := hdN_sub p
  have hll := hdrOf_len p.1.1
  refine (headersH_ok (D := k.toList ++ (X' ++ mr :: S.ids)) hpc hPh hE hhd (hdN_nodup p) (fun q hq => ⟨(hdrOf_vals _ q (hsub.subset hq)).1, by have := (hdrOf_vals _ q (hsub.subset hq)).2; omega⟩) (by have := hsub.length_le; omega) hkl).mono ?_
  rintro hv H2 ⟨hhv, f2⟩
  have hs2 := f2.size
  refine (hrd.read H2 f2).mono ?_
  rintro x H3 ⟨kb, bv, rfl, hbv, f3, hkb, hclose⟩
  have hsz3 := f3.size
  have hXs : ∀ x ∈ X', Hs.size ≤ x := fun x hx => by have := (hXn x hx).1; omega
  have hhv3 : HeadsV (k.toList ++ (X' ++ mr :: S.ids)) H3 hv (sortHs (hdN p)) := hhv.frm Qx f3 (fun x hx => .inl (by
    rcases List.mem_append.1 hx with hx | hx
    · simp [hx]
    · simp [hx]))
  have hbv3 : BytV (k.toList ++ (X' ++ mr :: S.ids)) H3 bv (bodyN p) := hbv.bytV (fun g hg hm => by have h1 := hkb g hg; have h2 := hkl g hm; omega)
  have hbl : isOne bv = true := hbv3.isOne
  have e1 : fillV #[(0, 1), (1, 1)] #[(.slice none 0 0), (.slice none 0 0)] [(0, hv), (1, bv)] = some #[hv, bv] := by
    rw [fillV_cons hhv.isOne rfl (by simp), fillV_cons hbl rfl (by simp), fillV_nil]; rfl
  simp only [Q0, Q1, Q2, Q3, Q4, Q5, Q6, Q7, Q8, Q9, Qa, Qb, Qc, Qd, Qe, Qf, Qg, Qh, Qi, Qj, e1, Option.map_some, fill2, NewSl]
  have f4 : Frm [] H3 (H3.push (.cells #[hv, bv] 39 (0, 0))) := Frm.push _ _ _
  have hb4 := push_same H3 (.cells #[hv, bv] 39 (0, 0))
  have z4 : (H3.push (.cells #[hv, bv] 39 (0, 0))).size = H3.size + 1 := by simp
  generalize H3.push (.cells #[hv, bv] 39 (0, 0)) = H4 at *
  have hkX : ∀ x ∈ X' ++ S.ids, k ≠ some x := fun x hx e => by
    apply (hown1.lt x e).2
    rcases List.mem_append.1 hx with hx | hx
    · simp [hx]
    · simp [hx]
  have hown4 := ((hown1.frm Qw f2 (by simp)).frm Qw f3 (fun x hx => ⟨.inl (by
    rcases List.mem_append.1 hx with hx | hx
    · simp [hx]
    · simp [hx]), hkX x hx⟩)).frm Qw f4 (by simp)
  have f14 : Frm (mr :: S.ids) Hs H4 := ((f1'.trans (f2.mono (by simp))).up f3 (fun x hx => by
    rcases List.mem_append.1 hx with hx | hx
    · exact .inr (hXs x hx)
    · exact .inl (by simp [hx]))).trans (f4.mono (by simp))
  refine append_one Qw (xs := [hv, bv]) (a := resN p) hown4 (fun i hi => by rw [cellH_of hb4]; simp) rfl ⟨hv, bv, rfl, hhv3.frm Qx f4 (by simp), hbv3.frm f4 (by simp)⟩ rfl (by omega) (by omega) (fun x hx => by have := hDlt x hx; omega) (by omega) fun k' out' H5 hown5 f5 hk5 => ?_
  simp only [Q0, Q1, Q2, Q3, Q4, Q5, Q6, Q7, Q8, Q9, Qa, Qb, Qc, Qd, Qe, Qf, Qg, Qh, Qi, Qj, Bool.not_true]
  refine hK k' out' X' m' H5 hown5 ?_ (by omega) (f14.up f5 (fun x hx => .inr (hkB x (by simpa using hx)))) (fun g hg => ?_) (fun x hx => ⟨hXs x hx, by have := (hXn x hx).2; have := f5.size; omega⟩)
  · refine hclose H5 k.toList ((f4.mono (by simp)).trans f5) (fun y hy => ?_)
    have hy' : k = some y := by simpa using hy
    have h1 := hkB y hy'
    have h2 := (hown1.lt y hy').2
    refine ⟨by have := hlow.2.2; omega, fun hm => ?_, fun e => by have := hlow.2.1 y e; omega⟩
    rcases List.mem_append.1 hm with hm | hm
    · exact h2 (by simp [hm])
    · have := hlow.1 y hm; omega
  · rcases hk5 with e | ⟨g', e, hge'⟩
    · exact hkB g (by rw [← e, hg])
    · rw [hg] at e; cases e; omega
theorem partsLoopN_ok {S : Stk} {s : St} {mr tb : Nat} {m : MRf} {bd : List UInt8} {B : Nat} {ea ua : Addr} {H : Heap} {ps : List QIn} (h : PR S mr tb m bd B ea ua s H) (hr : s.rest S = wholeT bd none (ps.map (·.1))) (hm : m.parts = 0) (hc : m.cur = .pointer none) (hgb : GoodBd bd)
    (hps : ∀ p ∈ ps, GoodQ bd p) (hn : ps.length < 2 ^ 34) :
    CallsH Tryz.prog 36 #[.func (.func 59) #[.pointer (some ⟨mr, 0, none⟩)] #[]] H fun x H' => ∃ y, x = .tuple #[y, .int .i64 1] ∧ PartsV [] H' y (ps.map resN) ∧ Frm (mr :: S.ids) H H' := by
  apply s36
  unfold c36
  have hbr := h.bdr
  have hlow : (∀ x ∈ mr :: tb :: S.ids, x < H.size) ∧ (∀ x, blk S.v = some x → x < H.size) ∧ B ≤ H.size := ⟨h.lt, h.vlt, h.base⟩
  refine ⟨fun μ vs H1 => ∃ done todo k out X m, ps = done ++ todo ∧ μ = todo.length ∧ vs = [out] ∧ OwnS 2 39 PartR (X ++ mr :: S.ids) H1 k out (done.map resN) ∧
      Closes S mr tb m bd B ea ua ((if done = [] ∧ ¬ todo = [] then [] else [13, 10]) ++ (dashOf bd ++ tailT bd none (todo.map (·.1)))) X H1 ∧ m.parts = done.length ∧ Frm (mr :: S.ids) H H1 ∧ (∀ g, k = some g → H.size ≤ g) ∧ ∀ x ∈ X, H.size ≤ x ∧ x < H1.size,
    ⟨_, [], ps, none, _, [], m, rfl, rfl, rfl, ⟨rfl, rfl⟩, .inl ⟨hc, s, h, ?_⟩, by simpa using hm, Frm.refl _ _, by simp, by simp⟩, ?_⟩
  · rw [hr, wholeT]
    by_cases he : ps = []
    · subst he; simp [tail_pre]
    · have he' : ¬ (ps.map (·.1) = [] ∧ (none : Option PartIn) = none) := by simpa using he
      rw [if_neg he', if_pos ⟨rfl, he⟩]; rfl
  clear h hr hm hc
  rintro μ vs H1 ⟨done, todo, k, out, X, m, hdt, rfl, rfl, hown, hcl, hnp, hfr, hkB, hXB⟩
  have hdl : done.length + todo.length = ps.length := by rw [hdt]; simp
  simp only [Q9]
  cases todo with
  | nil =>
    rw [List.append_nil] at hdt
    obtain rfl : done = ps := hdt.symm
    rw [if_neg (by simp)] at hcl
    refine ⟨59, #[.pointer (some ⟨mr, 0, none⟩)], #[], rfl, bodyd59, ?_⟩
    apply s59
    unfold c59
    apply s72
    unfold c72
    refine (nextPart_end (by simpa [dashOf, tailT] using hcl) hgb).mono ?_
    rintro x H2 ⟨rfl, f2, s2, h2⟩
    simp only [Q0, Q1, Q2, Q3, Q4, Q5, Q6, Q7, Q8, Q9, Qa, Qb, Qc, Qd, Qe, Qf, Qg, Qh, Qi, Qj, nilV2_neq_iface]
    refine (state_end h2.er.eof).mono ?_
    rintro x H3 ⟨rfl, rfl⟩
    have hown2 := hown.frm Qw f2 (fun x hx => ⟨.inl (by
      simp only [List.mem_append, List.mem_cons] at hx ⊢
      rcases hx with h | h
      · exact .inl h
      · exact .inr (.inr h)), fun e => (hown.lt x e).2 (by
      simp only [List.mem_append, List.mem_cons] at hx ⊢
      rcases hx with h | h
      · exact .inl h
      · exact .inr (.inr h))⟩)
    refine ⟨out, rfl, (hown2.slV Qw).sub Qw (by simp), hfr.up f2 (fun x hx => ?_)⟩
    rcases List.mem_append.1 hx with hx | hx
    · exact .inr (hXB x hx).1
    · exact .inl (by simp [hx])
  | cons p todo =>
    refine partStepN_ok (ea := ea) (ua := ua) (tl := tailT bd none (todo.map (·.1))) (n := done.length) hgb hbr hown ?_ hnp hfr hkB hXB hlow (hps p (by rw [hdt]; simp)) (tailT_full _ _ _) (by omega) (by simp; omega) fun k' out' X' m' H' g1 g4 g5 g6 g7 g8 => ?_
    · by_cases h0 : done = []
      · subst h0
        simpa [tailT] using hcl
      · have h1 : ¬ done.length = 0 := fun e => h0 (List.eq_nil_of_length_eq_zero e)
        rw [if_neg h1]
        rw [if_neg (by simp [h0])] at hcl
        simpa [tailT] using hcl
    · refine ⟨todo.length, by simp, done ++ [p], todo, k', out', X', m', by rw [hdt]; simp, rfl, rfl, ?_, ?_, ?_, g6, g7, g8⟩
      · rw [List.map_append]; exact g1
      · rw [if_neg (by simp), ← tail_pre]; exact g4
      · rw [g5]; simp
theorem next27_ok {bd : List UInt8} {v : Value} {B : Nat} {ea ua : Addr} {H : Heap} {ps : List QIn} (hv : IsBytes H v (wholeT bd none (ps.map (·.1)))) (hE : Errs B ea ua H) (hB : B ≤ H.size) (hgb : GoodBd bd) (hbr : BdR bd) (hl : (wholeT bd none (ps.map (·.1))).length < 2 ^ 39)
    (hps : ∀ p ∈ ps, GoodQ bd p) (hn : ps.length < 2 ^ 34) :
    CallsH Tryz.prog 27 #[v, strVal bd] H fun x H' => ∃ y, x = .tuple #[y, .int .i64 1] ∧ PartsV [] H' y (ps.map resN) ∧ Frm [] H H' := by
  have hlen := hgb.len
  apply s27
  unfold c27
  refine (source_ok hv (by omega)).mono ?_
  rintro x H1 ⟨br, u, rfl, hbr1, hu, f1, hge, hvb, hbs⟩
  have h0 : 0 < H.size := by obtain ⟨t, f, h⟩ := hE.eof; exact lt_of_some h
  refine (newReader_ok hbr1 hu (fun x hx => ⟨(hvb x hx).2.1, (hvb x hx).2.2⟩) (hE.eof.frm f1 (by simp)) (by omega) (by omega) (by omega)).mono ?_
  rintro x H2 ⟨S, s, mr, tb, m, rfl, hrd, hmr, hrest, herr, hparts, hcur, hEt, hEv, f2, hge2, rfl, rfl, h5, htb⟩
  have f12 : Frm [] H H2 := f1.trans f2
  have hge3 : ∀ y ∈ mr :: tb :: S.ids, H.size ≤ y := fun y hy => by
    by_cases hyb : y = S.br
    · omega
    · have := hge2 y hy hyb; have := f1.size; omega
  have hPR : PR S mr tb m bd B ea ua s H2 := ⟨hrd, hmr, hE.frm f12 (by simp), hbr, fun x hx => by have := hge3 x hx; omega, ⟨hEt, hEv⟩, h5, fun x hx => by have := (hvb x hx).2.2; have := f2.size; omega, htb, by have := f12.size; omega⟩
  refine (partsLoopN_ok hPR hrest hparts hcur hgb hps hn).mono ?_
  rintro x H3 ⟨y, rfl, hy, f3⟩
  simp only [Q0, Q1, Q2, Q3, Q4, Q5, Q6, Q7, Q8, Q9, Qa, Qb, Qc, Qd, Qe, Qf, Qg, Qh, Qi, Qj]
  refine ⟨y, rfl, hy, f12.up f3 (fun x hx => .inr (hge3 x ?_))⟩
  rcases List.mem_cons.1 hx with rfl | hx
  · simp
  · simp [hx]
end Go.Cps
