/-
  A part of the proof: Strings, headers, parts and fields as elements of slices; a copy of a slice of strings. A range over a header's map: the entries come, each once, in some order. The lines of a header: their text, what trimming and cutting makes of them; the blank line. readMIMEHeader: the lines of a header, made a map. Close of a Writer; Write of no parts. spec.letter, spec.within, spec.Boundary; the statement FnNone over any heap whose io.EOF is an error of errors.New.
  Conditions: each contract's own.
-/
import Derived.Maps.RangeRun
import Derived.Test.YteajpfckbnfdaaaGreatDoorH12
import Derived.Test.YteajpfckbnfdaaaGreatDoorH14
import Derived.Test.YteajpfckbnfdaaaGreatDoorH17
set_option linter.all false
namespace Go.Cps
open Go Go.Proofs
def BytV (D : List Nat) (H : Heap) (v : Value) (l : List UInt8) : Prop := IsBytes H v l ∧ (l ≠ [] → ∀ b, blk v = some b → b ∉ D ∧ b < H.size)
theorem BytV.frm {D X : List Nat} {H H' : Heap} {v : Value} {l : List UInt8} (h : BytV D H v l) (f : Frm X H H') (hX : ∀ x ∈ X, x ∈ D ∨ H.size ≤ x) : BytV D H' v l :=
  ⟨h.1.frm' f (fun h0 b hb hm => by
    obtain ⟨h1, h2⟩ := h.2 h0 b hb
    rcases hX b hm with h | h
    · exact h1 h
    · omega), fun h0 b hb => ⟨(h.2 h0 b hb).1, Nat.lt_of_lt_of_le (h.2 h0 b hb).2 f.size⟩⟩
theorem BytV.new {D : List Nat} {H : Heap} {v : Value} {l : List UInt8} {g : Nat} (h : BytV D H v l) (hg : H.size ≤ g) : BytV (g :: D) H v l :=
  ⟨h.1, fun h0 b hb => by
    obtain ⟨h1, h2⟩ := h.2 h0 b hb
    refine ⟨fun hm => ?_, h2⟩
    rcases List.mem_cons.1 hm with rfl | hm
    · omega
    · exact h1 hm⟩
theorem BytV.sub {D D' : List Nat} {H : Heap} {v : Value} {l : List UInt8} (h : BytV D H v l) (hD : ∀ x ∈ D', x ∈ D) : BytV D' H v l := ⟨h.1, fun h0 b hb => ⟨fun hm => (h.2 h0 b hb).1 (hD b hm), (h.2 h0 b hb).2⟩⟩
theorem BytV.isOne {D : List Nat} {H : Heap} {v : Value} {l : List UInt8} (h : BytV D H v l) : isOne v = true := by
  rcases h.1 with ⟨b, o, c, rfl, _⟩ | ⟨a', rfl, _⟩ <;> rfl
theorem OwnB.bytV {D : List Nat} {H : Heap} {k : Option Nat} {v : Value} {l : List UInt8} (h : OwnB H k v l) (hk : ∀ g, k = some g → g ∉ D) : BytV D H v l :=
  ⟨h.bytes, fun _ b hb => by
    rw [h.blk] at hb
    refine ⟨hk b hb, ?_⟩
    subst hb
    obtain ⟨cells, _, hg, _⟩ := h
    exact lt_of_some hg⟩
def StrR (_ : List Nat) (_ : Heap) (s : List UInt8) (vs : List Value) : Prop := vs = [strVal s]
theorem Qy : RelOk StrR := ⟨fun h _ _ => h, fun h _ => h, fun _ h => h, fun h v hv => by rw [h] at hv; simp at hv; subst hv; rfl⟩
abbrev StrsV := SlV 1 StrR
abbrev Hdr := List UInt8 × List (List UInt8)
structure FieldL where
  name : List UInt8
  file : List UInt8
  value : List UInt8
def FieldR (D : List Nat) (H : Heap) (p : FieldL) (vs : List Value) : Prop := ∃ z, vs = [strVal p.name, strVal p.file, z] ∧ BytV D H z p.value
theorem fieldR_ok : RelOk FieldR where
  frm := fun ⟨z, h, h3⟩ f hX => ⟨z, h, h3.frm f hX⟩
  new := fun ⟨z, h, h3⟩ hg => ⟨z, h, h3.new hg⟩
  sub := fun hD ⟨z, h, h3⟩ => ⟨z, h, h3.sub hD⟩
  one := fun ⟨z, h, h3⟩ v hv => by
    subst h
    simp only [List.mem_cons, List.not_mem_nil, or_false] at hv
    rcases hv with rfl | rfl | rfl
    · rfl
    · rfl
    · exact h3.isOne
abbrev FieldsV := SlV 3 FieldR
theorem add_zero (a : Addr) : a.add 0 = a := by simp [Addr.add]
theorem strs_elem {D : List Nat} {H : Heap} {v : Value} {l : List (List UInt8)} (h : StrsV D H v l) {j : Nat} (hj : j < l.length) : ∃ a, (∀ k : IntKind, elemAddrV 1 v (.int k j) = some (.pointer (some a))) ∧ cellH H a = some (strVal l[j]) := by
  obtain ⟨a, vs, h1, _, h3, h4, h5⟩ := h.elem hj
  refine ⟨a, h1, ?_⟩
  have := h5 0 (by omega)
  rw [show vs = [strVal l[j]] from h4, add_zero] at this
  simpa using this
end Go.Cps
namespace Go.Cps
open Go Go.Proofs
section
attribute [local irreducible] Sem.run
end
theorem StrsAt.strsV {H : Heap} {b o c : Nat} {l : List (List UInt8)} {D : List Nat} (h : StrsAt H b o c l) (hb : b ∉ D) : StrsV D H (.slice (some ⟨b, o, none⟩) l.length c) l := by
  obtain ⟨cells, h1, h2, h3, h4⟩ := h
  refine .inl ⟨b, o, c, rfl, h2, hb, lt_of_some h1, fun j hj => ⟨[strVal l[j]], rfl, rfl, fun i hi => ?_⟩⟩
  have hi0 : i = 0 := by omega
  subst hi0
  rw [cellH_of h1, Nat.mul_one, Nat.add_zero, h4 j hj, List.getElem?_eq_getElem hj]
  rfl
end Go.Cps
namespace Go.Cps
open Go Go.Proofs
def lineOf (kv : List UInt8 × List UInt8) : List UInt8 := kv.1 ++ 58 :: 32 :: kv.2
def linesText (ls : List (List UInt8 × List UInt8)) : List UInt8 := ls.flatMap fun kv => lineOf kv ++ [13, 10]
structure PlainV (v : List UInt8) : Prop where
  chars : ∀ b ∈ v, 32 ≤ b.toNat ∧ b.toNat ≤ 126
  first : v.head? ≠ some 32
  last : v.getLast? ≠ some 32
structure LineOk (kv : List UInt8 × List UInt8) : Prop where
  key : kv.1 ≠ []
  toks : ∀ b ∈ kv.1, tok b.toNat = true
  val : PlainV kv.2
  len : kv.1.length + kv.2.length ≤ 1000
def hdrFrom (acc : List (List UInt8 × List (List UInt8))) (ls : List (List UInt8 × List UInt8)) : List (List UInt8 × List (List UInt8)) := ls.foldl (fun acc kv => addH (canonG true kv.1) kv.2 acc) acc
def hdrOf (ls : List (List UInt8 × List UInt8)) : List (List UInt8 × List (List UInt8)) := hdrFrom [] ls
theorem hdrFrom_snoc (acc : List (List UInt8 × List (List UInt8))) (ls : List (List UInt8 × List UInt8)) (kv : List UInt8 × List UInt8) : hdrFrom acc (ls ++ [kv]) = addH (canonG true kv.1) kv.2 (hdrFrom acc ls) := by
  simp [hdrFrom, List.foldl_append]
theorem tok_lws {b : UInt8} (h : tok b.toNat = true) : lws b = false := by
  rw [← Bool.not_eq_true]
  intro hw
  unfold lws at hw
  simp only [Bool.or_eq_true, beq_iff_eq] at hw
  rcases hw with rfl | rfl <;> simp [tok, alnum] at h
theorem tok_ne {b c : UInt8} (h : tok b.toNat = true) (hc : tok c.toNat = false) : b ≠ c := fun e => by rw [e, hc] at h; cases h
theorem PlainV.no_nl {v : List UInt8} (h : PlainV v) : 10 ∉ v := fun hm => by have := h.chars 10 hm; simp at this
theorem LineOk.no_nl {kv : List UInt8 × List UInt8} (h : LineOk kv) : 10 ∉ lineOf kv := by
  intro hm
  simp only [lineOf, List.mem_append, List.mem_cons] at hm
  rcases hm with hm | hm | hm | hm
  · exact tok_ne (h.toks 10 hm) (c := 10) (by decide) rfl
  · cases hm
  · cases hm
  · exact h.val.no_nl hm
theorem dropWhile_head {l : List UInt8} (h : ∀ x, l.head? = some x → lws x = false) : l.dropWhile lws = l := by
  cases l with
  | nil => rfl
  | cons x r => rw [List.dropWhile_cons_of_neg]; rw [h x rfl]; simp
theorem PlainV.not_lws_head {v : List UInt8} (h : PlainV v) : ∀ x, v.head? = some x → lws x = false := by
  intro x hx
  have hm : x ∈ v := List.mem_of_head? hx
  have h1 := h.chars x hm
  have h2 := h.first
  rw [hx] at h2
  rw [← Bool.not_eq_true]
  intro hw
  unfold lws at hw
  simp only [Bool.or_eq_true, beq_iff_eq] at hw
  rcases hw with rfl | rfl
  · exact h2 rfl
  · simp at h1
theorem PlainV.not_lws_last {v : List UInt8} (h : PlainV v) : ∀ x, v.getLast? = some x → lws x = false := by
  intro x hx
  have hm : x ∈ v := List.mem_of_getLast? hx
  have h1 := h.chars x hm
  have h2 := h.last
  rw [hx] at h2
  rw [← Bool.not_eq_true]
  intro hw
  unfold lws at hw
  simp only [Bool.or_eq_true, beq_iff_eq] at hw
  rcases hw with rfl | rfl
  · exact h2 rfl
  · simp at h1
def valTail (v : List UInt8) : List UInt8 := if v = [] then [] else 32 :: v
theorem trimB_line {kv : List UInt8 × List UInt8} (h : LineOk kv) : trimB (lineOf kv) = kv.1 ++ 58 :: valTail kv.2 := by
  obtain ⟨k, v⟩ := kv
  have hk : k ≠ [] := h.key
  have h1 : (lineOf (k, v)).dropWhile lws = lineOf (k, v) := dropWhile_head fun x hx => by
    cases k with
    | nil => exact absurd rfl hk
    | cons y r => simp [lineOf] at hx; subst hx; exact tok_lws (h.toks y (by simp))
  unfold trimB
  rw [h1]
  by_cases hv : v = []
  · subst hv
    have e : (lineOf (k, [])).reverse = 32 :: 58 :: k.reverse := by simp [lineOf]
    rw [e, List.dropWhile_cons_of_pos (by decide), List.dropWhile_cons_of_neg (by decide)]
    simp [valTail]
  · have e : (lineOf (k, v)).reverse.dropWhile lws = (lineOf (k, v)).reverse := dropWhile_head fun x hx => by
      refine h.val.not_lws_last x ?_
      rw [List.head?_reverse] at hx
      have : (lineOf (k, v)).getLast? = v.getLast? := by
        simp only [lineOf]
        rw [List.getLast?_append]
        simp only [List.getLast?_cons]
        cases hv2 : v.getLast? with
        | none => rw [List.getLast?_eq_none_iff] at hv2; exact absurd hv2 hv
        | some y => simp
      rw [this] at hx
      exact hx
    rw [e, List.reverse_reverse]
    simp [lineOf, valTail, if_neg hv]
theorem valTail_drop {v : List UInt8} (h : PlainV v) : (valTail v).dropWhile lws = v := by
  unfold valTail
  split
  · rename_i e; rw [e]; rfl
  · rw [List.dropWhile_cons_of_pos (by decide)]
    exact dropWhile_head h.not_lws_head
theorem valTail_print {v : List UInt8} (h : PlainV v) : ∀ b ∈ valTail v, printV b.toNat = true := by
  intro b hb
  unfold valTail at hb
  split at hb
  · cases hb
  · rcases List.mem_cons.1 hb with rfl | hb
    · decide
    · have := h.chars b hb
      unfold printV
      simp only [Bool.or_eq_true, Bool.and_eq_true, decide_eq_true_eq]
      omega
theorem valTail_len (v : List UInt8) : (valTail v).length ≤ v.length + 1 := by
  unfold valTail
  split <;> simp
theorem behind_head (ls : List (List UInt8 × List UInt8)) (q : List UInt8) (h : ∀ kv ∈ ls, LineOk kv) : ∃ c r, linesText ls ++ 13 :: 10 :: q = c :: r ∧ lws c = false ∧ c ≠ 32 ∧ c ≠ 9 := by
  cases ls with
  | nil => exact ⟨13, _, rfl, by decide, by decide, by decide⟩
  | cons kv r =>
    have hkv := h kv (by simp)
    obtain ⟨k, v⟩ := kv
    cases k with
    | nil => exact absurd rfl hkv.key
    | cons y k =>
      have hy := hkv.toks y (by simp)
      exact ⟨y, k ++ 58 :: 32 :: v ++ [13, 10] ++ (linesText r ++ 13 :: 10 :: q), by simp [linesText, lineOf], tok_lws hy, tok_ne hy (by decide), tok_ne hy (by decide)⟩
theorem contBlank_ok {S : Stk} {s : St} {H : Heap} {tr : Nat} {tbuf : Value} {q : List UInt8} {lim : Int} (ht : TR S tr tbuf H) (h : RdAt S s H) (h4 : Full4 H) (h40 : 1 ∉ S.ids) (hr : s.rest S = 13 :: 10 :: q) (hlim : 0 ≤ lim) :
    CallsH Tryz.prog 171 #[.pointer (some ⟨tr, 0, none⟩), .int .i64 lim, .func (.func 172) #[] #[]] H fun x H' => ∃ u s', x = .tuple #[u, .nilIface] ∧ RdAt S s' H' ∧ IsBytes H' u [] ∧ s'.rest S = q ∧ Frm S.ids H H' ∧ H'.size = H.size := by
  apply s168
  have hnf : nilV2 .eql .nilFunc (.func (.func 172) #[] #[]) = some (.bool false) := rfl
  simp only [c168, hnf, Q0, Q1, Q2, Q3, Q4, Q5, Q6, Q7, Q8, Q9, Qa, Qb, Qc, Qd, Qe, Qf, Qg, Qh, Qi, Qj]
  refine (lineSlice_ok (p := []) ht h h4 h40 hr (by simp) (by simp) (by simpa using hlim)).mono ?_
  rintro x H1 ⟨u0, s1, rfl, h1, hu0, hr1, hrng, f1, z1⟩
  have hne : (((([] : List UInt8).length : Nat) : Int) == 0) = true := by decide
  simp only [Q0, Q1, Q2, Q3, Q4, Q5, Q6, Q7, Q8, Q9, Qa, Qb, Qc, Qd, Qe, Qf, Qg, Qh, Qi, Qj, Qk, Ql, Qm, Qn, Qo, Qp, Qq, Qr, Qs, nilV2_neq_nil, hu0.len, hne]
  exact ⟨u0, s1, rfl, h1, hu0, hr1, f1, z1⟩
end Go.Cps
namespace Go.Cps
open Go Go.Proofs
theorem makeStrs_of {n : Nat} {H : Heap} {K : Value → Heap → Prop} (hn : n ≤ 1000) (hK : ∀ H', Frm [] H H' → H'.size = H.size + 1 → (∃ cells : Array Value, H'[H.size]? = some (.cells cells 9 (0, 0)) ∧ cells.size = n) → K (.slice (some ⟨H.size, 0, none⟩) n n) H') :
    MakeSlice 9 1 16 #[(.string ⟨#[]⟩)] (.int .i64 n) (.int .i64 n) H K := by
  refine ⟨_, _, n, n, rfl, rfl, Nat.le_refl _, by omega, by omega, ?_⟩
  exact hK _ (Frm.push _ _ _) (by simp) ⟨_, push_same _ _, by simp⟩
theorem RdAt.ids_lt {S : Stk} {s : St} {H : Heap} (h : RdAt S s H) : ∀ x ∈ S.ids, x < H.size := by
  intro x hx
  simp only [Stk.ids, List.mem_cons, List.not_mem_nil, or_false] at hx
  rcases hx with rfl | rfl | rfl | rfl
  · exact lt_of_some h.hb
  · exact lt_of_some h.hbf
  · exact lt_of_some h.hst
  · exact lt_of_some h.hbr
theorem Ents.lt {H : Heap} {m N : Nat} {E : List Ent} (h : Ents H m N E) : ∀ x ∈ Ents.blks m E, x < H.size := by
  intro x hx
  simp only [Ents.blks, List.mem_cons, List.mem_map] at hx
  rcases hx with rfl | ⟨e, he, rfl⟩
  · obtain ⟨es, c, h0, _⟩ := h.map
    exact lt_of_some h0
  · obtain ⟨cs, h0, _⟩ := h.strs e he
    exact lt_of_some h0
theorem Frm.up {S X : List Nat} {H0 a b : Heap} (h : Frm S H0 a) (f : Frm X a b) (hX : ∀ x ∈ X, x ∈ S ∨ H0.size ≤ x) : Frm S H0 b :=
  ⟨Nat.le_trans h.size f.size, fun k hk hn => by
    rw [f.same k (Nat.lt_of_lt_of_le hk h.size) (fun hm => by
      rcases hX k hm with h1 | h1
      · exact hn h1
      · omega), h.same k hk hn]⟩
structure HdAt (S : Stk) (tr : Nat) (B : Nat) (H : Heap) (m N : Nat) (E : List Ent) (k : Option Nat) (st : Value) (n : Nat) (sb : Option Nat) (s : St) : Prop where
  rd : RdAt S s H
  tr_ : ∃ tbuf, TR S tr tbuf H ∧ OwnE H k tbuf
  ents : Ents H m N E
  left : Left H E st n sb
  full : Full4 H
  base : B ≤ H.size
  trB : tr < B
  idB : ∀ x ∈ S.ids, x < B
  vB : ∀ x, blk S.v = some x → x < B
  blkB : ∀ x ∈ Ents.blks m E, B ≤ x ∧ k ≠ some x
  sbB : ∀ b, sb = some b → B ≤ b ∧ b < H.size ∧ k ≠ some b ∧ b ≠ m
  kB : ∀ g, k = some g → B ≤ g ∧ g < H.size
  htr : tr ∉ S.ids
  hvt : blk S.v ≠ some tr
  tr0 : tr ≠ 0
  four : 1 ∉ S.ids ∧ 1 ≠ tr ∧ 1 < B
theorem HdAt.ents_frm {S : Stk} {tr B : Nat} {H H' : Heap} {m N : Nat} {E : List Ent} {k : Option Nat} {st : Value} {n : Nat} {sb : Option Nat} {s : St} {X : List Nat} (h : HdAt S tr B H m N E k st n sb s) (f : Frm X H H') (hX : ∀ x ∈ X, x < B ∨ k = some x ∨ H.size ≤ x) : Ents H' m N E ∧ Left H' E st n sb := by
  refine ⟨h.ents.frm f fun x hx hm => ?_, h.left.frm f fun b hb hm => ?_⟩
  · obtain ⟨h1, h2⟩ := h.blkB x hx
    have h3 := h.ents.lt x hx
    rcases hX x hm with h4 | h4 | h4
    · omega
    · exact h2 h4
    · omega
  · obtain ⟨h1, h2, h3, _⟩ := h.sbB b hb
    rcases hX b hm with h4 | h4 | h4
    · omega
    · exact h3 h4
    · omega
end Go.Cps
namespace Go.Cps
open Go Go.Proofs
theorem meth58 : methodRes Tryz.prog 56 "Write" = some 223 := by kernel_rfl
theorem body209 : hasBody Tryz.prog 223 = true := by kernel_rfl
theorem close_core {wr b : Nat} {k : Option Nat} {bd l : List UInt8} {last : Value} {H : Heap} {R : Value → Heap → Prop} (h : WrAt wr (.iface 56 (.pointer (some ⟨b, 0, none⟩))) bd last H) (hb : BufAt b k l H) (hl : l.length + bd.length + 8 < 2 ^ 40)
    (hR : ∀ k' H', BufAt b k' (l ++ ([13, 10, 45, 45] ++ bd ++ [45, 45, 13, 10])) H' → Frm (b :: k.toList) H H' → (k' = k ∨ ∃ g, k' = some g ∧ H.size ≤ g) → R .nilIface H') :
    Get (cellH H ⟨wr, 0, none⟩) fun x26 =>
    Get (cellH H ⟨wr, 1, none⟩) fun x30 =>
    Get (strV .add (.string ⟨#[13, 10, 45, 45]⟩) x30) fun x31 =>
    Get (strV .add x31 (.string ⟨#[45, 45, 13, 10]⟩)) fun x32 =>
    ToBytes 5 x32 H fun x33 H =>
    (cellH H ⟨wr, 0, none⟩ = some x26 ∧ True) ∧
    Get (nilV x26) fun _ =>
    Invoke Tryz.prog "Write" x26 #[x33] H fun x36 H =>
    Get (extractV x36 0) fun _ =>
    Get (extractV x36 1) fun x38 =>
    R x38 H := by
  have e1 : strV .add (.string ⟨#[13, 10, 45, 45]⟩) (strVal bd) = some (strVal ([13, 10, 45, 45] ++ bd)) := strV_add (a := [13, 10, 45, 45]) (b := bd) (by simp; omega)
  have e2 : strV .add (strVal ([13, 10, 45, 45] ++ bd)) (.string ⟨#[45, 45, 13, 10]⟩) = some (strVal ([13, 10, 45, 45] ++ bd ++ [45, 45, 13, 10])) := strV_add (a := [13, 10, 45, 45] ++ bd) (b := [45, 45, 13, 10]) (by simp; omega)
  simp only [Q0, Q1, Q2, Q3, Q4, Q5, Q6, Q7, Q8, Q9, Qa, Qb, Qc, Qd, Qe, Qf, Qg, Qh, Qi, Qj, cellH_of h, e1, e2]
  refine toBytes_of fun c H1 hc hr f1 z1 => ?_
  have h1 : WrAt wr (.iface 56 (.pointer (some ⟨b, 0, none⟩))) bd last H1 := f1.get h (by simp)
  have hb1 := hb.frm f1 (by simp) (by simp)
  have hx := hr.bytes (o := 0) (c := c) (n := ([13, 10, 45, 45] ++ bd ++ [45, 45, 13, 10]).length) (by simp) hc
  rw [List.drop_zero, List.take_length] at hx
  have hbs : b < H.size := by obtain ⟨_, _, hb, _⟩ := hb; exact lt_of_some hb
  refine ⟨⟨by rw [cellH_of h1]; rfl, trivial⟩, ?_⟩
  simp only [nilV_iface, Q6]
  refine invoke_of 223 meth58 body209 ?_
  refine (bufWrite_ok hb1 hx (fun y hy => by simp [blk] at hy; omega) (by simp; omega)).mono ?_
  rintro x H2 ⟨rfl, k', hb2, f2, hk⟩
  simp only [Q0, Q1, Q2, Q3, Q4, Q5, Q6, Q7, Q8, Q9, Qa, Qb, Qc, Qd, Qe, Qf, Qg, Qh, Qi, Qj]
  refine hR k' H2 hb2 ((f1.mono (by simp)).trans f2) ?_
  rcases hk with rfl | ⟨g, rfl, hg⟩
  · exact .inl rfl
  · exact .inr ⟨g, rfl, by omega⟩
theorem close_nil {wr b : Nat} {k : Option Nat} {bd l : List UInt8} {H : Heap} (h : WrAt wr (.iface 56 (.pointer (some ⟨b, 0, none⟩))) bd (.pointer none) H) (hb : BufAt b k l H) (hl : l.length + bd.length + 8 < 2 ^ 40) :
    CallsH Tryz.prog 25 #[.pointer (some ⟨wr, 0, none⟩)] H fun x H' => x = .nilIface ∧ ∃ k', BufAt b k' (l ++ ([13, 10, 45, 45] ++ bd ++ [45, 45, 13, 10])) H' ∧ Frm (b :: k.toList) H H' ∧ (k' = k ∨ ∃ g, k' = some g ∧ H.size ≤ g) := by
  apply s35
  unfold c35
  refine Join_direct ?_
  simp only [Q0, Q1, Q2, Q3, Q4, Q5, Q6, Q7, Q8, Q9, Qa, Qb, Qc, Qd, Qe, Qf, Qg, Qh, Qi, Qj, cellH_of h, nilV2_neq_ptr, Option.isNone_none, Bool.not_true]
  have := close_core (R := fun x H' => x = .nilIface ∧ ∃ k', BufAt b k' (l ++ ([13, 10, 45, 45] ++ bd ++ [45, 45, 13, 10])) H' ∧ Frm (b :: k.toList) H H' ∧ (k' = k ∨ ∃ g, k' = some g ∧ H.size ≤ g)) h hb hl fun k' H' h1 h2 h3 => ⟨rfl, k', h1, h2, h3⟩
  simp only [Q0, Q1, Q2, Q3, Q4, Q5, Q6, Q7, Q8, Q9, Qa, Qb, Qc, Qd, Qe, Qf, Qg, Qh, Qi, Qj, cellH_of h] at this
  exact this
end Go.Cps
namespace Go.Cps
open Go Go.Proofs
theorem letter_ok {c : Int} {H : Heap} : CallsH Tryz.prog 29 #[.int .u8 c] H fun x H' => x = .bool (alnum c) ∧ H' = H := by
  apply s28
  unfold c28
  refine ⟨fun vs H' => vs = [.bool (alnum c)] ∧ H' = H, ?_, ?_⟩
  · simp only [Q0, Q1, Q2, Q3, Q4, Q5, Q6, Q7, Q8, Q9, Qa, Qb, Qc, Qd, Qe, Qf, Qg, Qh, Qi, Qj, Qk, Ql, Qm, Qn, Qo, Qp, Qq, Qr, Qs]
    refine Br_intro (fun h1 => ?_) (fun h1 => ?_) <;> simp only [Q0, Q1, Q2, Q3, Q4, Q5, Q6, Q7, Q8, Q9, Qa, Qb, Qc, Qd, Qe, Qf, Qg, Qh, Qi, Qj, Bool.false_eq_true, if_false, if_true] <;> repeat' (first | refine Br_intro (fun h2 => ?_) (fun h2 => ?_) | simp only [Q0, Q1, Q2, Q3, Q4, Q5, Q6, Q7, Q8, Q9, Qa, Qb, Qc, Qd, Qe, Qf, Qg, Qh, Qi, Qj, Qk, Ql, Qm, Qn, Qo, Qp, Qq, Qr, Qs, Bool.false_eq_true, if_false, if_true])
    all_goals (simp only [decide_eq_true_eq, decide_eq_false_iff_not] at *; try simp only [List.cons.injEq, Value.bool.injEq, and_true]; rw [Bool.eq_iff_iff]; simp only [alnum, Bool.or_eq_true, Bool.and_eq_true, decide_eq_true_eq, true_iff, false_iff, eq_self, Bool.false_eq_true]; omega)
  · rintro _ H' ⟨rfl, rfl⟩
    simp only [Q0, Q1, Q2, Q3, Q4, Q5, Q6, Q7, Q8, Q9, Qa, Qb, Qc, Qd, Qe, Qf, Qg, Qh, Qi, Qj, and_self]
theorem strIndex_of {l : List UInt8} {i : Nat} (h : i < l.length) : strIndexV (strVal l) (.int .i64 i) = some (byteV l[i]) := by
  have hs : i < (⟨l.toArray⟩ : ByteArray).size := by rw [bstr_size]; exact h
  have e : (⟨l.toArray⟩ : ByteArray)[i]? = some l[i] := by
    rw [getElem?_pos (⟨l.toArray⟩ : ByteArray) i hs]
    rfl
  simp [strIndexV, strVal, e, byteV]
theorem lenStr_of (l : List UInt8) : lenStrV (strVal l) = some (.int .i64 l.length) := by simp [strVal, bstr_size]
theorem within_ok {l : List UInt8} {b : UInt8} {H : Heap} (hl : l.length < 2 ^ 40) : CallsH Tryz.prog 30 #[strVal l, byteV b] H fun x H' => x = .bool (l.contains b) ∧ H' = H := by
  apply s29
  unfold c29
  refine ⟨fun n vs H' => ∃ i : Nat, vs = [.int .i64 i] ∧ n = l.length - i ∧ i ≤ l.length ∧ H' = H ∧ (l.take i).contains b = false, ⟨_, 0, rfl, rfl, Nat.zero_le _, rfl, by simp⟩, ?_⟩
  rintro n vs _ ⟨i, rfl, rfl, hi, rfl, hc⟩
  simp only [lenStr_of, Q0, Q1, Q2, Q3, Q4, Q5, Q6, Q7, Q8, Q9, Qa, Qb, Qc, Qd, Qe, Qf, Qg, Qh, Qi, Qj, Qk, Ql, Qm, Qn, Qo, Qp, Qq, Qr, Qs]
  by_cases hlt : i < l.length
  · have hd : decide ((i : Int) < (l.length : Int)) = true := by simp; exact hlt
    have hd2 : (l.take (i + 1)).contains b = (l[i] == b) := by
      rw [List.take_succ_eq_append_getElem hlt]
      simp only [List.contains_append, hc, Bool.false_or, List.contains_cons, List.contains_nil, Bool.or_false]
      rw [Bool.eq_iff_iff, beq_iff_eq, beq_iff_eq]
      exact eq_comm
    have e1 : IntKind.i64.wrap ((i : Int) + 1) = ((i + 1 : Nat) : Int) := by rw [wrap_i64 (by omega) (by omega)]; omega
    simp only [hd, Q0, Q1, Q2, Q3, Q4, Q5, Q6, Q7, Q8, Q9, Qa, Qb, Qc, Qd, Qe, Qf, Qg, Qh, Qi, Qj, strIndex_of hlt, byteV, Qk, Ql, Qm, Qn, Qo, Qp, Qq, Qr, Qs, byte_beq, e1]
    refine Br_intro (fun h1 => ?_) (fun h1 => ?_)
    · refine ⟨?_, trivial⟩
      have : l.contains b = true := by
        rw [List.contains_iff_mem]
        rw [beq_iff_eq] at h1
        rw [← h1]
        exact List.getElem_mem hlt
      rw [this]
    · exact ⟨_, by omega, i + 1, rfl, rfl, hlt, trivial, by rw [hd2, h1]⟩
  · have hd : decide ((i : Int) < (l.length : Int)) = false := by simp; omega
    simp only [hd, Q0, Q1, Q2, Q3, Q4, Q5, Q6, Q7, Q8, Q9, Qa, Qb, Qc, Qd, Qe, Qf, Qg, Qh, Qi, Qj]
    rw [List.take_of_length_le (by omega)] at hc
    rw [hc]
    exact ⟨rfl, trivial⟩
def bspec : List UInt8 := [39, 40, 41, 43, 95, 44, 45, 46, 47, 58, 61, 63, 32]
theorem bspec_eq (b : UInt8) : bspec.contains b = (punct b.toNat || b == 32) := by
  have h39 : (((b.toNat : Nat) : Int) == 39) = (b == 39) := byte_beq b 39
  have h40 : (((b.toNat : Nat) : Int) == 40) = (b == 40) := byte_beq b 40
  have h41 : (((b.toNat : Nat) : Int) == 41) = (b == 41) := byte_beq b 41
  have h43 : (((b.toNat : Nat) : Int) == 43) = (b == 43) := byte_beq b 43
  have h95 : (((b.toNat : Nat) : Int) == 95) = (b == 95) := byte_beq b 95
  have h44 : (((b.toNat : Nat) : Int) == 44) = (b == 44) := byte_beq b 44
  have h45 : (((b.toNat : Nat) : Int) == 45) = (b == 45) := byte_beq b 45
  have h46 : (((b.toNat : Nat) : Int) == 46) = (b == 46) := byte_beq b 46
  have h47 : (((b.toNat : Nat) : Int) == 47) = (b == 47) := byte_beq b 47
  have h58 : (((b.toNat : Nat) : Int) == 58) = (b == 58) := byte_beq b 58
  have h61 : (((b.toNat : Nat) : Int) == 61) = (b == 61) := byte_beq b 61
  have h63 : (((b.toNat : Nat) : Int) == 63) = (b == 63) := byte_beq b 63
  simp only [bspec, List.contains_cons, List.contains_nil, punct, h39, h40, h41, h43, h95, h44, h45, h46, h47, h58, h61, h63, Bool.or_false, Bool.or_assoc]
def okBd (l : List UInt8) : Bool := l.all bchar && decide (0 < l.length) && decide (l.length ≤ 70) && (l[l.length - 1]? != some 32)
theorem okBd_iff {l : List UInt8} (h : okBd l = true) : BdOk l := by
  simp only [okBd, Bool.and_eq_true, List.all_eq_true, decide_eq_true_eq, bne_iff_ne] at h
  exact ⟨h.1.1.1, h.1.1.2, h.1.2, h.2⟩
theorem boundary_ok {l : List UInt8} {H : Heap} (hl : l.length < 2 ^ 40) : CallsH Tryz.prog 13 #[strVal l] H fun x H' => x = .bool (okBd l) ∧ H' = H := by
  apply s9
  unfold c9
  refine ⟨fun n vs H' => ∃ i : Nat, vs = [.int .i64 i] ∧ n = l.length - i ∧ i ≤ l.length ∧ H' = H ∧ (l.take i).all bchar = true, ⟨_, 0, rfl, rfl, Nat.zero_le _, rfl, by simp⟩, ?_⟩
  rintro n vs H ⟨i, rfl, rfl, hi, rfl, hc⟩
  simp only [lenStr_of, Q0, Q1, Q2, Q3, Q4, Q5, Q6, Q7, Q8, Q9, Qa, Qb, Qc, Qd, Qe, Qf, Qg, Qh, Qi, Qj, Qk, Ql, Qm, Qn, Qo, Qp, Qq, Qr, Qs]
  by_cases hlt : i < l.length
  · have hd : decide ((i : Int) < (l.length : Int)) = true := by simp; exact hlt
    have hd2 : (l.take (i + 1)).all bchar = bchar l[i] := by
      rw [List.take_succ_eq_append_getElem hlt, List.all_append, hc]; simp
    have e1 : IntKind.i64.wrap ((i : Int) + 1) = ((i + 1 : Nat) : Int) := by rw [wrap_i64 (by omega) (by omega)]; omega
    simp only [hd, Q0, Q1, Q2, Q3, Q4, Q5, Q6, Q7, Q8, Q9, Qa, Qb, Qc, Qd, Qe, Qf, Qg, Qh, Qi, Qj, strIndex_of hlt, e1]
    refine ⟨fun vs H' => vs = [.bool (!bchar l[i])] ∧ H' = H, ?_, ?_⟩
    · rw [byteV]
      refine letter_ok.mono ?_
      rintro x H' ⟨rfl, rfl⟩
      simp only [Q0, Q1, Q2, Q3, Q4, Q5, Q6, Q7, Q8, Q9, Qa, Qb, Qc, Qd, Qe, Qf, Qg, Qh, Qi, Qj]
      refine Br_intro (fun h1 => ?_) (fun h1 => ?_)
      · refine (within_ok (l := bspec) (b := l[i]) (by decide)).mono ?_
        rintro x H' ⟨rfl, rfl⟩
        simp only [Q0, Q1, Q2, Q3, Q4, Q5, Q6, Q7, Q8, Q9, Qa, Qb, Qc, Qd, Qe, Qf, Qg, Qh, Qi, Qj, if_true, and_true]
        simp only [Bool.not_eq_true'] at h1
        rw [bspec_eq, bchar, h1, Bool.false_or]
      · simp only [Q0, Q1, Q2, Q3, Q4, Q5, Q6, Q7, Q8, Q9, Qa, Qb, Qc, Qd, Qe, Qf, Qg, Qh, Qi, Qj, Bool.false_eq_true, if_false, and_true]
        simp only [Bool.not_eq_false'] at h1
        rw [bchar, h1, Bool.true_or, Bool.true_or]; rfl
    · rintro _ H' ⟨rfl, rfl⟩
      simp only [Q0, Q1, Q2, Q3, Q4, Q5, Q6, Q7, Q8, Q9, Qa, Qb, Qc, Qd, Qe, Qf, Qg, Qh, Qi, Qj]
      refine Br_intro (fun h1 => ?_) (fun h1 => ?_)
      · refine ⟨?_, trivial⟩
        have : okBd l = false := by
          rw [← Bool.not_eq_true]
          intro hok
          have := (okBd_iff hok).chars _ (List.getElem_mem hlt)
          rw [this] at h1
          cases h1
        rw [this]
      · simp only [Bool.not_eq_false'] at h1
        exact ⟨_, by omega, i + 1, rfl, rfl, hlt, trivial, by rw [hd2, h1]⟩
  · have hd : decide ((i : Int) < (l.length : Int)) = false := by simp; omega
    simp only [hd, Q0, Q1, Q2, Q3, Q4, Q5, Q6, Q7, Q8, Q9, Qa, Qb, Qc, Qd, Qe, Qf, Qg, Qh, Qi, Qj]
    rw [List.take_of_length_le (by omega)] at hc
    refine ⟨fun vs H' => vs = [.bool (okBd l)] ∧ H' = H, ?_, ?_⟩
    · refine Br_intro (fun h1 => ?_) (fun h1 => ?_)
      · have h1' : 0 < l.length := by simpa using h1
        simp only [Q0, Q1, Q2, Q3, Q4, Q5, Q6, Q7, Q8, Q9, Qa, Qb, Qc, Qd, Qe, Qf, Qg, Qh, Qi, Qj, if_true]
        refine Br_intro (fun h2 => ?_) (fun h2 => ?_)
        · have h2' : l.length ≤ 70 := by simp at h2; omega
          have e2 : IntKind.i64.wrap ((l.length : Int) - 1) = ((l.length - 1 : Nat) : Int) := by rw [wrap_i64 (by omega) (by omega)]; omega
          simp only [e2, strIndex_of (show l.length - 1 < l.length by omega), Q0, Q1, Q2, Q3, Q4, Q5, Q6, Q7, Q8, Q9, Qa, Qb, Qc, Qd, Qe, Qf, Qg, Qh, Qi, Qj, byteV, Qk, Ql, Qm, Qn, Qo, Qp, Qq, Qr, Qs, if_true, and_true, List.cons.injEq, Value.bool.injEq]
          have e3 : (((l[l.length - 1]'(by omega)).toNat : Int) == 32) = ((l[l.length - 1]'(by omega)) == 32) := byte_beq _ 32
          rw [okBd, hc, List.getElem?_eq_getElem (by omega : l.length - 1 < l.length)]
          simp only [h1', h2', decide_true, Bool.true_and, bne, e3]
          rfl
        · have h2' : ¬ l.length ≤ 70 := by simp at h2; omega
          simp [okBd, h2']
      · have h1' : l.length = 0 := by simp only [decide_eq_false_iff_not] at h1; omega
        simp only [Q0, Q1, Q2, Q3, Q4, Q5, Q6, Q7, Q8, Q9, Qa, Qb, Qc, Qd, Qe, Qf, Qg, Qh, Qi, Qj, Bool.false_eq_true, if_false]
        simp [okBd, h1']
    · rintro _ H' ⟨rfl, rfl⟩
      simp only [Q0, Q1, Q2, Q3, Q4, Q5, Q6, Q7, Q8, Q9, Qa, Qb, Qc, Qd, Qe, Qf, Qg, Qh, Qi, Qj, and_self]
theorem bd_no_nl {l : List UInt8} (h : BdOk l) : 10 ∉ l := by
  intro hm
  have := h.chars 10 hm
  simp [bchar, alnum, punct] at this
end Go.Cps
