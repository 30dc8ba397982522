/-
  A part of the proof (its texts: O1, O2, O3, O4, N4): each text says below what it proves.
  Conditions: each contract's own.
-/
import Derived.Test.YtfajmapajpfocaaGreatDoorRows
import Derived.ChangeArms
import Derived.ChangeShapes
import Derived.Stop.LaidTwo
import Derived.LaidLaws
import Derived.Test.YtfajmapajpfocaaGreatDoorCards
import Derived.WalkKit
import Derived.ProofKit
import Derived.OpenShut
import Derived.OpenVars
import Derived.Lay
import Derived.Stop.Joined
import Derived.Stop.LaidErr
import Derived.RowKit
import Derived.Carry
import Derived.Test.YtfajmapajpfocaaGreatDoorTie
import Derived.SevenTiedAt
import Derived.Deep.DeepHandedRow
import Derived.Deep.DeepWitnessRowRef
import Derived.SizedLaws
import Derived.Test.YtfajmapajpfocaaGreatDoorD7
import Derived.Test.YtfajmapajpfocaaGreatDoorD11
import Derived.Test.YtfajmapajpfocaaGreatDoorD13
import Derived.Test.YtfajmapajpfocaaGreatDoorD26
import Derived.Test.YtfajmapajpfocaaGreatDoorD31
set_option linter.all false
/-
  What the reading of an argument tells of the heap: strings, slices, the structs of this program.
  Conditions: none beyond the reading.
-/
namespace Go.Proofs.YtfajmapajpfocaaGreatDoor
open Go Go.Cps

theorem bulk_pos {H : Type} (d : DataW H) : 1 ≤ Rows.uptoBulk d := by
  cases d with
  | lit l => cases l <;> simp [Rows.uptoBulk]
  | nil => simp [Rows.uptoBulk]
  | ptr d => simp [Rows.uptoBulk]
  | slice elems spare => simp [Rows.uptoBulk]
  | agg parts => simp [Rows.uptoBulk]
  | iface t d => simp [Rows.uptoBulk]
  | map entries => simp [Rows.uptoBulk]
  | held h => simp [Rows.uptoBulk]

section
variable {H : Type} {enc : TypeId × Value → H} {P : Program} {w : World} {base : Nat} {held : Bool}

theorem cells_some {a : Addr} {n : Nat} {cs : List Value} (h : w.cells? base a n = some cs) : cs.length = n ∧ ∀ i, i < n → cellH w.heap (a.add i) = cs[i]? := by
  unfold World.cells? at h
  split at h
  · refine ⟨by simpa using mapM_some_length h, fun i hi => ?_⟩
    have := mapM_some_get h i i (by simp [hi])
    rw [← this]
    rfl
  · cases h
theorem cell_some {a : Addr} {H : Heap} {v : Value} (h : cellH H a = some v) : a.spot = none ∧ a.block < H.size := by
  unfold cellH at h
  split at h
  · rename_i c t f hb
    refine ⟨?_, lt_of_some hb⟩
    cases hs : a.spot with
    | none => rfl
    | some k => simp [hs] at h
  · cases h

/-- a slice of rows of w cells each -/
theorem open_sl {α : Type} {k : Nat} {R : List Nat → Heap → α → List Value → Prop} {size : α → Nat} {t e : TypeId} {fuel : Nat} {cs : List Value} {x : DataW H × List MemPlace} (ht : P.underlying t = some (.slice e)) (hw : P.cellsOf e = k) (hk : 0 < k)
    (hel : ∀ fuel cs x, cs.length = k → DataW.trod enc P w base (fun _ => true) held fuel e cs = some x → ∃ a : α, R [] w.heap a cs ∧ size a ≤ Rows.uptoBulk x.1)
    (h : DataW.trod enc P w base (fun _ => true) held fuel t cs = some x) :
    ∃ v l, cs = [v] ∧ SlV k R [] w.heap v l ∧ (l.map size).sum + 1 ≤ Rows.uptoBulk x.1 ∧ l.length + 1 ≤ Rows.uptoBulk x.1 := by
  rcases DataW.trod_slice ht h with ⟨rfl, rfl⟩ | ⟨a, len, cap, elems, rest, n, rfl, rfl, rfl, hb, hlc, hcm, hlen, hels, hrest, _⟩
  · exact ⟨_, [], rfl, .inr ⟨_, rfl, rfl⟩, by simp [Rows.uptoBulk], by simp [Rows.uptoBulk]⟩
  obtain ⟨hrl, hrs⟩ := hrest rfl
  rw [hw] at hels hrs
  by_cases hc0 : cap = 0
  · have h0 : len = 0 := by omega
    subst hc0 h0
    have he0 : elems = [] := List.eq_nil_of_length_eq_zero hlen
    exact ⟨_, [], rfl, .inr ⟨some a, rfl, rfl⟩, by simp [Rows.uptoBulk], by simp [Rows.uptoBulk]⟩
  have hval : ∃ v, cellH w.heap (a.add 0) = some v := by
    by_cases h0 : len = 0
    · have h1 := hrs 0 (by omega)
      rw [List.getElem?_eq_getElem (by omega)] at h1
      obtain ⟨vs, hc, _⟩ := Option.bind_eq_some_iff.1 h1
      obtain ⟨hvl, hvc⟩ := cells_some hc
      have := hvc 0 hk
      rw [List.getElem?_eq_getElem (by omega)] at this
      exact ⟨_, by simpa [h0, Addr.add] using this⟩
    · have h1 := hels 0 (by omega)
      rw [List.getElem?_eq_getElem (by omega)] at h1
      obtain ⟨vs, hc, _⟩ := Option.bind_eq_some_iff.1 h1
      obtain ⟨hvl, hvc⟩ := cells_some hc
      have := hvc 0 hk
      rw [List.getElem?_eq_getElem (by omega)] at this
      exact ⟨_, by simpa [Addr.add] using this⟩
  obtain ⟨v0, hv0⟩ := hval
  obtain ⟨hsp, hlt⟩ := cell_some hv0
  rw [add_zero] at hsp hlt
  obtain ⟨b, o, sp⟩ := a
  simp only at hsp hlt
  subst hsp
  have hex : ∀ m, m ≤ len → ∃ l : List α, l.length = m ∧ (l.map size).sum ≤ Rows.uptoBulkAll ((elems.map (·.1)).take m) ∧ ∀ j (hj : j < l.length), ∃ vs : List Value, vs.length = k ∧ R [] w.heap l[j] vs ∧ ∀ i, i < k → cellH w.heap ⟨b, o + (j * k + i), none⟩ = vs[i]? := by
    intro m
    induction m with
    | zero => exact fun _ => ⟨[], rfl, by simp [Rows.uptoBulkAll], fun j hj => absurd hj (by simp)⟩
    | succ m ih =>
      intro hm
      obtain ⟨l, hl, hs, hg⟩ := ih (by omega)
      have hel1 := hels m (by omega)
      rw [List.getElem?_eq_getElem (by omega)] at hel1
      obtain ⟨vs, hc, hd⟩ := Option.bind_eq_some_iff.1 hel1
      obtain ⟨hvl, hvc⟩ := cells_some hc
      obtain ⟨y, hR, hsz⟩ := hel _ _ _ hvl hd
      refine ⟨l ++ [y], by simp [hl], ?_, fun j hj => ?_⟩
      · rw [List.take_succ_eq_append_getElem (by simp; omega), List.map_append, List.sum_append]
        have happ : ∀ (p q : List (DataW H)), Rows.uptoBulkAll (p ++ q) = Rows.uptoBulkAll p + Rows.uptoBulkAll q := by
          intro p q
          induction p with
          | nil => simp [Rows.uptoBulkAll]
          | cons c p ih => simp only [List.cons_append, Rows.uptoBulkAll, ih]; omega
        rw [happ]
        simp only [List.map_cons, List.map_nil, List.sum_cons, List.sum_nil, List.getElem_map, Rows.uptoBulkAll]
        omega
      · by_cases hjm : j < l.length
        · rw [List.getElem_append_left hjm]
          exact hg j hjm
        · have hje : j = l.length := by simp at hj; omega
          subst hje
          refine ⟨vs, hvl, by simpa using hR, fun i hi => ?_⟩
          rw [hl, ← hvc i hi]
          rw [add_mk, add_mk, Nat.add_assoc]
  obtain ⟨l, hl, hs, hg⟩ := hex len (Nat.le_refl _)
  rw [List.take_of_length_le (by simp; omega)] at hs
  have hll : ∀ (p : List (DataW H)), p.length ≤ Rows.uptoBulkAll p := by
    intro p
    induction p with
    | nil => simp [Rows.uptoBulkAll]
    | cons c p ih => have := bulk_pos c; simp only [List.length_cons, Rows.uptoBulkAll]; omega
  have hl2 := hll (elems.map (·.1))
  rw [List.length_map] at hl2
  refine ⟨_, l, rfl, ?_, by simp only [Rows.uptoBulk]; omega, by simp only [Rows.uptoBulk]; omega⟩
  refine .inl ⟨b, o, cap, by rw [hl], by omega, by simp, hlt, fun j hj => ?_⟩
  obtain ⟨vs, h1, h2, h3⟩ := hg j hj
  exact ⟨vs, h1, h2, h3⟩

def ByteR (_ : List Nat) (_ : Heap) (b : UInt8) (vs : List Value) : Prop := vs = [byteV b]
theorem bytV_of {D : List Nat} {H : Heap} {v : Value} {l : List UInt8} (h : SlV 1 ByteR D H v l) : BytV D H v l := by
  rcases h with ⟨b, o, c, rfl, h1, h2, h3, h4⟩ | ⟨a, rfl, rfl⟩
  · refine ⟨.inl ⟨b, o, c, rfl, h1, fun j hj => ?_⟩, fun _ b' hb => ?_⟩
    · obtain ⟨vs, _, g2, g3⟩ := h4 j hj
      have := g3 0 (by omega)
      rw [show vs = [byteV l[j]] from g2] at this
      rw [List.getElem?_eq_getElem hj]
      simpa using this
    · simp only [blk, Option.some.injEq] at hb
      subst hb
      exact ⟨h2, h3⟩
  · exact ⟨.inr ⟨a, rfl, rfl⟩, fun h => absurd rfl h⟩
theorem open_bytes {t e : TypeId} {fuel : Nat} {cs : List Value} {x : DataW H × List MemPlace} (ht : P.underlying t = some (.slice e)) (he : P.underlying e = some (.int .u8)) (hw : P.cellsOf e = 1)
    (h : DataW.trod enc P w base (fun _ => true) held fuel t cs = some x) : ∃ v l, cs = [v] ∧ BytV [] w.heap v l ∧ l.length + 1 ≤ Rows.uptoBulk x.1 := by
  obtain ⟨v, l, h1, h2, _, h4⟩ := open_sl (R := ByteR) (size := fun _ => 1) ht hw (by omega) (fun fuel cs x hcs hx => by
    obtain ⟨n, rfl, rfl, hn⟩ := DataW.trod_int he hx
    refine ⟨UInt8.ofNat n.toNat, ?_, bulk_pos _⟩
    have hb : 0 ≤ n ∧ n ≤ 255 := by simpa [Lit.wf, IntKind.min, IntKind.max, IntKind.signed, IntKind.bits] using hn
    show [Value.int .u8 n] = [byteV _]
    have : (UInt8.ofNat n.toNat).toNat = n.toNat := by
      rw [UInt8.toNat_ofNat']
      omega
    simp only [byteV, this]
    congr 2
    omega) h
  exact ⟨v, l, h1, bytV_of h2, h4⟩
theorem open_str {t : TypeId} {fuel : Nat} {cs : List Value} {x : DataW H × List MemPlace} (ht : P.underlying t = some .string)
    (h : DataW.trod enc P w base (fun _ => true) held fuel t cs = some x) : ∃ l : List UInt8, cs = [Cps.strVal l] ∧ l.length + 1 ≤ Rows.uptoBulk x.1 := by
  obtain ⟨s, rfl, rfl, _⟩ := DataW.trod_string ht h
  exact ⟨s.data.toList, by cases s; simp [Cps.strVal], by simp [Rows.uptoBulk]⟩
theorem open_strs {t e : TypeId} {fuel : Nat} {cs : List Value} {x : DataW H × List MemPlace} (ht : P.underlying t = some (.slice e)) (he : P.underlying e = some .string) (hw : P.cellsOf e = 1)
    (h : DataW.trod enc P w base (fun _ => true) held fuel t cs = some x) : ∃ v l, cs = [v] ∧ StrsV [] w.heap v l ∧ (l.map fun s => s.length + 1).sum + 1 ≤ Rows.uptoBulk x.1 := by
  obtain ⟨v, l, h1, h2, h3, _⟩ := open_sl (R := StrR) (size := fun s : List UInt8 => s.length + 1) ht hw (by omega) (fun fuel cs x hcs hx => by
    obtain ⟨s, rfl, hs⟩ := open_str he hx
    exact ⟨s, rfl, hs⟩) h
  exact ⟨v, l, h1, h2, h3⟩
end
end Go.Proofs.YtfajmapajpfocaaGreatDoor

/-
  The arguments of this program: fields, parts.
  Conditions: none beyond the reading.
-/
namespace Go.Proofs.YtfajmapajpfocaaGreatDoor
open Go Go.Cps

theorem cells5 : Tryz.prog.cellsOf 5 = 1 := by kernel_rfl
theorem cells9' : Tryz.prog.cellsOf 9 = 1 := by kernel_rfl
theorem cells23 : Tryz.prog.cellsOf 23 = 1 := by kernel_rfl
theorem cells37 : Tryz.prog.cellsOf 37 = 1 := by kernel_rfl
theorem cells88 : Tryz.prog.cellsOf 88 = 1 := by kernel_rfl
theorem cells90 : Tryz.prog.cellsOf 90 = 2 := by kernel_rfl
theorem cells39 : Tryz.prog.cellsOf 39 = 2 := by kernel_rfl

theorem len_two {α : Type} {l : List α} (h : l.length = 2) : ∃ a b, l = [a, b] := by
  match l, h with
  | [a, b], _ => exact ⟨a, b, rfl⟩
section
variable {H : Type} {enc : TypeId × Value → H} {w : World} {base : Nat} {held : Bool} {fuel : Nat} {cs : List Value} {x : DataW H × List MemPlace}

theorem open_body (h : DataW.trod enc Tryz.prog w base (fun _ => true) held fuel 23 cs = some x) : ∃ v l, cs = [v] ∧ BytV [] w.heap v l ∧ l.length + 1 ≤ Rows.uptoBulk x.1 := open_bytes Tryz.underlying23 Tryz.underlying5 cells5 h
theorem open_text (h : DataW.trod enc Tryz.prog w base (fun _ => true) held fuel 9 cs = some x) : ∃ l : List UInt8, cs = [Cps.strVal l] ∧ l.length + 1 ≤ Rows.uptoBulk x.1 := open_str und9 h

def hdrSize (p : Hdr) : Nat := p.1.length + (p.2.map fun s => s.length + 1).sum + 1
theorem open_hdr (hl : cs.length = 2) (h : DataW.trod enc Tryz.prog w base (fun _ => true) held fuel 90 cs = some x) : ∃ p : Hdr, HeadR [] w.heap p cs ∧ hdrSize p ≤ Rows.uptoBulk x.1 := by
  obtain ⟨xs, n, rfl, rfl, _, hxl, hf⟩ := DataW.trod_struct Tryz.underlying90 h
  obtain ⟨y0, y1, rfl⟩ := len_two hxl
  obtain ⟨c0, c1, rfl⟩ := len_two hl
  · · skip
      have h0 : DataW.trod enc Tryz.prog w base (fun _ => true) held n 9 (([c0, c1].drop 0).take (Tryz.prog.cellsOf 9)) = some y0 := hf 0 _ rfl
      rw [cells9'] at h0
      replace h0 : DataW.trod enc Tryz.prog w base (fun _ => true) held n 9 [c0] = some y0 := h0
      have h1 : DataW.trod enc Tryz.prog w base (fun _ => true) held n 88 (([c0, c1].drop 1).take (Tryz.prog.cellsOf 88)) = some y1 := hf 1 _ rfl
      rw [cells88] at h1
      replace h1 : DataW.trod enc Tryz.prog w base (fun _ => true) held n 88 [c1] = some y1 := h1
      obtain ⟨a, e0, s0⟩ := open_text h0
      obtain ⟨v, c, e1, hv, s1⟩ := open_strs Tryz.underlying88 und9 cells9' h1
      obtain rfl := List.singleton_inj.1 e0
      obtain rfl := List.singleton_inj.1 e1
      refine ⟨(a, c), ⟨_, rfl, hv⟩, ?_⟩
      simp only [hdrSize, List.map_cons, List.map_nil, Rows.uptoBulk, Rows.uptoBulkAll]
      omega
theorem open_heads (h : DataW.trod enc Tryz.prog w base (fun _ => true) held fuel 37 cs = some x) : ∃ v l, cs = [v] ∧ HeadsV [] w.heap v l ∧ (l.map hdrSize).sum + 1 ≤ Rows.uptoBulk x.1 ∧ l.length + 1 ≤ Rows.uptoBulk x.1 :=
  open_sl (R := HeadR) Tryz.underlying37 cells90 (by omega) (fun _ _ _ hl h => open_hdr hl h) h

def partSize (p : PartL) : Nat := (p.1.map hdrSize).sum + p.2.length + 1
theorem open_part (hl : cs.length = 2) (h : DataW.trod enc Tryz.prog w base (fun _ => true) held fuel 39 cs = some x) : ∃ p : PartL, PartR [] w.heap p cs ∧ partSize p ≤ Rows.uptoBulk x.1 := by
  obtain ⟨xs, n, rfl, rfl, _, hxl, hf⟩ := DataW.trod_struct Tryz.underlying39 h
  obtain ⟨y0, y1, rfl⟩ := len_two hxl
  obtain ⟨c0, c1, rfl⟩ := len_two hl
  · · skip
      have h0 : DataW.trod enc Tryz.prog w base (fun _ => true) held n 37 (([c0, c1].drop 0).take (Tryz.prog.cellsOf 37)) = some y0 := hf 0 _ rfl
      rw [cells37] at h0
      replace h0 : DataW.trod enc Tryz.prog w base (fun _ => true) held n 37 [c0] = some y0 := h0
      have h1 : DataW.trod enc Tryz.prog w base (fun _ => true) held n 23 (([c0, c1].drop 1).take (Tryz.prog.cellsOf 23)) = some y1 := hf 1 _ rfl
      rw [cells23] at h1
      replace h1 : DataW.trod enc Tryz.prog w base (fun _ => true) held n 23 [c1] = some y1 := h1
      obtain ⟨u, a, e0, hu, s0, _⟩ := open_heads h0
      obtain ⟨v, c, e1, hv, s1⟩ := open_body h1
      obtain rfl := List.singleton_inj.1 e0
      obtain rfl := List.singleton_inj.1 e1
      refine ⟨(a, c), ⟨_, _, rfl, hu, hv⟩, ?_⟩
      simp only [partSize, List.map_cons, List.map_nil, Rows.uptoBulk, Rows.uptoBulkAll]
      omega
theorem open_parts (h : DataW.trod enc Tryz.prog w base (fun _ => true) held fuel 26 cs = some x) : ∃ v l, cs = [v] ∧ PartsV [] w.heap v l ∧ (l.map partSize).sum + 1 ≤ Rows.uptoBulk x.1 ∧ l.length + 1 ≤ Rows.uptoBulk x.1 :=
  open_sl (R := PartR) Tryz.underlying26 cells39 (by omega) (fun _ _ _ hl h => open_part hl h) h
end

/-- a value of one cell -/
theorem one_cell {v : Value} {u : Value} (h : v.cells.toList = [u]) (hn : ∀ cs, v ≠ .agg cs) : v = u := by
  cases v <;> first | (simpa [Value.cells] using h) | exact absurd rfl (hn _)
end Go.Proofs.YtfajmapajpfocaaGreatDoor

/-
  What the laid variables tell: io.EOF, io.ErrUnexpectedEOF, bufio.ErrBufferFull.
  Conditions: they are laid.
-/
namespace Go.Proofs.YtfajmapajpfocaaGreatDoor
open Go Go.Cps Go.RowKit

theorem gEOF' : Tryz.prog.globalNamed "io.EOF" = some 0 := by kernel_rfl
theorem gEOFType' : (Tryz.prog.globals[0]?).map (·.type) = some 60 := by kernel_rfl
theorem gUEF : Tryz.prog.globalNamed "io.ErrUnexpectedEOF" = some 16 := by kernel_rfl
theorem gUEFType : (Tryz.prog.globals[16]?).map (·.type) = some 60 := by kernel_rfl
theorem gFull : Tryz.prog.globalNamed "bufio.ErrBufferFull" = some 4 := by kernel_rfl
theorem gFullType : (Tryz.prog.globals[4]?).map (·.type) = some 60 := by kernel_rfl
theorem cells140' : Tryz.prog.cellsOf 140 = 1 := by kernel_rfl
theorem star' : "*" ++ "errors.errorString" = "*errors.errorString" := by decide
theorem row138' (u : TypeId) (h : Tryz.prog.typeName? 3 u = some "*errors.errorString") : u = 138 :=
  typeName_ptr_named (nm := "errors.errorString") (by rw [star']; kernel_rfl) (by kernel_rfl) (by decide) u (by rw [star']; exact h)

theorem var_heap {W : World} {n : String} {g : Nat} {cs : Array Value} (hg : Tryz.prog.globalNamed n = some g) (hv : W.var? Tryz.prog n = some cs) : ∃ t f, W.heap[g]? = some (.cells cs t f) := by
  unfold World.var? at hv
  rw [hg] at hv
  simp only [Option.bind_some] at hv
  cases hh : W.heap[g]? with
  | none => rw [hh] at hv; simp at hv
  | some o =>
    rw [hh] at hv
    cases o <;> simp at hv
    subst hv
    exact ⟨_, _, rfl⟩

theorem errs_of {W : World} {r r' : List (String × DataW Unit)} (h : laidMet Tryz.prog (("io.EOF", Rows.laid_io_EOF) :: ("io.ErrUnexpectedEOF", Rows.laid_io_ErrUnexpectedEOF) :: r) W) (h' : laidMet Tryz.prog (("bufio.ErrBufferFull", Rows.laid_bufio_ErrBufferFull) :: r') W) :
    ∃ ea ua : Addr, Errs W.heap.size ea ua W.heap := by
  obtain ⟨ms, h60⟩ := und60
  obtain ⟨ea, ua, s0, s1, c0, c1, t0, t1, hv0, hv1, _, _, _, _, _, _, hne, hb0, hb1⟩ := laid_sentinels2 h gEOF' gEOFType' gUEF gUEFType h60 row138' und138 Tryz.underlying140 rfl rfl und9 cells140' cells9'
  obtain ⟨fa, s, hv4, _, _, _⟩ := laid_sentinel h' gFull gFullType h60 row138' und138 Tryz.underlying140 rfl rfl und9 cells140' cells9'
  obtain ⟨t, f, e0⟩ := var_heap gEOF' hv0
  obtain ⟨t', f', e16⟩ := var_heap gUEF hv1
  obtain ⟨t'', f'', e4⟩ := var_heap gFull hv4
  exact ⟨ea, ua, ⟨_, _, e0⟩, ⟨_, _, e16⟩, hne, ⟨lt_of_some hb0, _, _, hb0⟩, ⟨lt_of_some hb1, _, _, hb1⟩, lt_of_some e16, ⟨_, _, _, _, e4⟩⟩
end Go.Proofs.YtfajmapajpfocaaGreatDoor

/-
  Arguments of a call read as what they stand for; the bulk of the variables.
  Conditions: each contract's own.
-/
namespace Go.Proofs.YtfajmapajpfocaaGreatDoor
open Go Go.Cps Go.ChangeShapes Go.WideShapes Go.ChangeAt Go.RowKit

theorem own' : ownKnob Tryz.prog.godebug = none := by kernel_rfl
theorem laidOut' : laidOutB Tryz.prog = true := by kernel_rfl
/-- from the heap to the world -/
theorem calls_of' {f : FuncId} {args : Array Value} {W : World} (h : CallsH Tryz.prog f args W.heap fun x H' => x = .bool true ∧ Frm [] W.heap H') :
    Calls Tryz.prog f args W fun e W' => e = .returned (.bool true) ∧ Go.RowKit.Below W.heap.size W W' := by
  refine (h W rfl).mono ?_
  rintro e W' ⟨v, rfl, hs, rfl, hf⟩
  exact ⟨rfl, hs.os, hs.tape, hs.output, hf.size, fun k hk => hf.same k hk (by simp)⟩
theorem trodVars_two' {H : Type} {enc : TypeId × Value → H} {P : Program} {w : World} {sp : Nat → Bool} {a b : String} {gs : List (DataW H)} {ps : List MemPlace} (h : DataW.TrodVars enc P w sp [a, b] gs ps) : ∃ g1 g2, gs = [g1, g2] := by
  match gs, h with
  | [], h => exact h.elim
  | [_], h => obtain ⟨_, _, _, _, _, _, _, _, _, _, h, _⟩ := h; exact h.elim
  | [g1, g2], _ => exact ⟨g1, g2, rfl⟩
  | _ :: _ :: _ :: _, h => obtain ⟨_, _, _, _, _, _, _, _, _, _, h, _⟩ := h; obtain ⟨_, _, _, _, _, _, _, _, _, _, h, _⟩ := h; exact h.elim

set_option maxRecDepth 100000 in
theorem no_agg {t e : TypeId} {W : World} {base : Nat} {v : Value} (ht : Tryz.prog.underlying t = some (.slice e)) (h : Value.okWide Tryz.prog W .any base t v) : ∀ cs, v ≠ .agg cs := by
  rintro cs rfl
  unfold Value.okWide at h
  rw [ht] at h
  simp only [Cell.okWide, Cell.ok, ht] at h
set_option maxRecDepth 100000 in
theorem no_agg_str {t : TypeId} {W : World} {base : Nat} {v : Value} (ht : Tryz.prog.underlying t = some .string) (h : Value.okWide Tryz.prog W .any base t v) : ∀ cs, v ≠ .agg cs := by
  rintro cs rfl
  unfold Value.okWide at h
  rw [ht] at h
  simp only [Cell.okWide, Cell.ok, ht] at h

section
variable {H : Type} {enc : TypeId × Value → H} {W : World} {base b0 : Nat} {held : Bool} {v : Value} {d : DataW H} {p : List MemPlace}
set_option maxRecDepth 100000 in
theorem arg_parts (hok : Value.okWide Tryz.prog W .any b0 26 v) (h : DataW.Trod enc Tryz.prog W base (fun _ => true) held 26 v d p) : ∃ l, PartsV [] W.heap v l ∧ (l.map partSize).sum + 1 ≤ Rows.uptoBulk d ∧ l.length + 1 ≤ Rows.uptoBulk d := by
  obtain ⟨fuel, h⟩ := h
  obtain ⟨u, l, e, h1, h2, h3⟩ := open_parts h
  have hna : ∀ cs, v ≠ .agg cs := no_agg (t := 26) (e := 39) Tryz.underlying26 hok
  have hvu := one_cell e hna
  subst hvu
  exact ⟨l, h1, h2, h3⟩
set_option maxRecDepth 100000 in
theorem arg_text (hok : Value.okWide Tryz.prog W .any b0 9 v) (h : DataW.Trod enc Tryz.prog W base (fun _ => true) held 9 v d p) : ∃ l, v = Cps.strVal l ∧ l.length + 1 ≤ Rows.uptoBulk d := by
  obtain ⟨fuel, h⟩ := h
  obtain ⟨l, e, h2⟩ := open_text h
  have hna : ∀ cs, v ≠ .agg cs := no_agg_str (t := 9) und9 hok
  have hvu := one_cell e hna
  subst hvu
  exact ⟨l, rfl, h2⟩
end

theorem bulk_iface {H : Type} {enc : TypeId × Value → H} {P : Program} {w : World} {base : Nat} {sp : Nat → Bool} {fuel : Nat} {t : TypeId} {ms : Array (String × TypeId)} {cs : List Value} {x : DataW H × List MemPlace} (ht : P.underlying t = some (.interface ms))
    (h : DataW.trod enc P w base sp true fuel t cs = some x) : Rows.uptoBulk x.1 = 1 := by
  cases fuel with
  | zero => simp [DataW.trod] at h
  | succ n =>
    unfold DataW.trod at h
    rw [ht] at h
    split at h <;> simp_all
    · rw [← h]; simp [Rows.uptoBulk]
    · rw [← h]; simp [Rows.uptoBulk]
theorem bulk_vars {H : Type} {enc : TypeId × Value → H} {w : World} {sp : Nat → Bool} {a b : String} {i j : Nat} {gs : List (DataW H)} {ps : List MemPlace} (ha : Tryz.prog.globalNamed a = some i) (hb : Tryz.prog.globalNamed b = some j)
    (hi : (Tryz.prog.globals[i]?).map (·.type) = some 60) (hj : (Tryz.prog.globals[j]?).map (·.type) = some 60) (h : DataW.TrodVars enc Tryz.prog w sp [a, b] gs ps) : Rows.uptoBulkAll gs = 2 := by
  obtain ⟨g1, g2, rfl⟩ := trodVars_two' h
  obtain ⟨ms, h60⟩ := und60
  obtain ⟨i', t', cs, fuel, p, q, e1, e2, _, h1, ⟨j', u', cs', fuel', p', q', e3, e4, _, h2, _⟩, _⟩ := h
  rw [ha] at e1
  cases e1
  rw [hi] at e2
  cases e2
  rw [hb] at e3
  cases e3
  rw [hj] at e4
  cases e4
  have b1 : Rows.uptoBulk g1 = 1 := bulk_iface h60 h1
  have b2 : Rows.uptoBulk g2 = 1 := bulk_iface h60 h2
  simp only [Rows.uptoBulkAll, b1, b2]
theorem gA : Tryz.prog.globalNamed "loop.example/pub-mailparts/pub/multipart.ErrMessageTooLarge" = some 7 := by kernel_rfl
theorem gB : Tryz.prog.globalNamed "loop.example/pub-mailparts/pub/textproto.errMessageTooLarge" = some 14 := by kernel_rfl
theorem tA : (Tryz.prog.globals[7]?).map (·.type) = some 60 := by kernel_rfl
theorem tB : (Tryz.prog.globals[14]?).map (·.type) = some 60 := by kernel_rfl

end Go.Proofs.YtfajmapajpfocaaGreatDoor

/-
  The law FnCut, its second form: its row and its tied card.
  Conditions: none beyond the row's own.
-/
namespace Go.Proofs.YtfajmapajpfocaaGreatDoor
open Go Go.Cps Go.ChangeShapes Go.WideShapes Go.ChangeAt Go.RowKit

set_option maxRecDepth 100000 in
theorem arg_int {H : Type} {enc : TypeId × Value → H} {W : World} {base b0 : Nat} {held : Bool} {v : Value} {d : DataW H} {p : List MemPlace} (hok : Value.okWide Tryz.prog W .any b0 3 v) (h : DataW.Trod enc Tryz.prog W base (fun _ => true) held 3 v d p) : ∃ k : Int, v = .int .i64 k := by
  obtain ⟨fuel, h⟩ := h
  obtain ⟨n, e, _⟩ := DataW.trod_int Tryz.underlying3 h
  have hna : ∀ cs, v ≠ .agg cs := by
    rintro cs rfl
    unfold Value.okWide at hok
    rw [Tryz.underlying3] at hok
    simp only [Cell.okWide, Cell.ok, Tryz.underlying3] at hok
  exact ⟨n, one_cell e hna⟩

namespace FnCut
theorem varsOk' : varsRowed Tryz.prog Rows.fnCutSpec.vars = true := by kernel_rfl
theorem errs {W : World} (hL : laidMetH Tryz.prog Rows.fnCutUptoRow.laid W) : ∃ ea ua : Addr, Errs W.heap.size ea ua W.heap := by
  rw [MakeChecks.laidMetH_plain _ _ _ (by kernel_rfl)] at hL
  have h3 := hL.tail.tail.tail
  exact errs_of h3 h3.tail.tail.tail.tail.tail.tail.tail

theorem part_size (l : List PartL) : (l.map partSize).sum = (l.map bulkP).sum := rfl

set_option maxRecDepth 100000 in
theorem contract (H : Type) (enc : TypeId × Value → H) (W : World) (base : Nat) (args : Array Value) (ds gs : List (DataW H)) (before : List MemPlace)
    (hval0 : ∀ (j : Nat) t v, Tryz.f5.params[j]? = some t → args[j]? = some v → Value.okWide Tryz.prog W .any base t v)
    (hW : DataW.Whole enc Tryz.prog Tryz.f5.params.toList Rows.fnCutSpec.vars false W args.toList ds gs before) (hL : laidMetH Tryz.prog Rows.fnCutUptoRow.laid W)
    (hk : Rows.uptoSmall H (ds ++ gs) = true) :
    Calls Tryz.prog 5 args W fun e W' => ∃ v, e = .returned v ∧ Rows.fnCutSpec.post enc Tryz.prog Tryz.f5 false true false false W args v W' := by
  have hval := hval0
  have hW' := hW
  have hltW := fun x hx => hW'.lt x hx
  obtain ⟨p, q, hA0, hV, rfl, _, _⟩ := hW
  have hA : DataW.TrodAll enc Tryz.prog W 0 (fun _ => true) true Tryz.f5.params.toList args.toList ds p := hA0
  rw [Tryz.params5] at hA hval
  obtain ⟨v0, v1, v2, d0, d1, d2, p0, p1, p2, rfl, rfl, rfl, h0, h1, h2⟩ := trodAll_three hA
  obtain ⟨l, hl, hs, hn⟩ := arg_parts (hval 0 26 v0 rfl rfl) h0
  obtain ⟨bd, rfl, hb⟩ := arg_text (hval 1 9 v1 rfl rfl) h1
  obtain ⟨kk, rfl⟩ := arg_int (hval 2 3 v2 rfl rfl) h2
  obtain ⟨ea, ua, hE⟩ := errs hL
  have hbulk : Rows.uptoBulkAll ([d0, d1, d2] ++ gs) ≤ 1048576 := of_decide_eq_true hk
  simp only [List.cons_append, List.nil_append, Rows.uptoBulkAll] at hbulk
  rw [part_size] at hs
  refine (calls_of' (cut_ok hl hE (Nat.le_refl _) (by omega) (by omega))).mono fun e W' ⟨he, hbl⟩ => ?_
  subst he
  have hV' := hbl.trodVars laidOut' varsOk' hV
  obtain ⟨g1, g2, rfl⟩ := trodVars_two' hV
  refine ⟨_, rfl, _, _, _, [], p0 ++ (p1 ++ p2), q, hW', ?_, ?_, ?_, hbl.frame _, fun h => by cases h⟩
  · show DataW.TrodAll enc Tryz.prog W' _ _ _ [4] [.bool true] [.lit (.bool true)] []
    exact trodAll_mk1 (shut_bool Tryz.underlying4 _)
  · show DataW.TrodAll enc Tryz.prog W' _ _ _ Tryz.f5.params.toList [_, _, _] [d0, d1, d2] (p0 ++ (p1 ++ p2))
    rw [Tryz.params5]
    exact trodAll_mk3 (Below.trod laidOut' (by kernel_rfl) (of_decide_eq_true (by kernel_rfl)) h0 hbl (fun x hx => by simpa using hltW x (by simp [hx])))
      (Below.trod laidOut' (by kernel_rfl) (of_decide_eq_true (by kernel_rfl)) h1 hbl (fun x hx => by simpa using hltW x (by simp [hx])))
      (Below.trod laidOut' (by kernel_rfl) (of_decide_eq_true (by kernel_rfl)) h2 hbl (fun x hx => by simpa using hltW x (by simp [hx])))
  · exact hV'

theorem laid_met (os : Os) (args : Array Value) : laidMetH Tryz.prog Rows.fnCutUptoRow.laid ((World.laidAll Tryz.prog os Rows.fnCutUptoRow.laid).forCall (fun _ _ => 0) ⟨#[], args, []⟩).memory := by
  rw [MakeChecks.laidMetH_plain _ _ _ (by kernel_rfl)]
  exact laidMet_laidAll _ (by kernel_rfl) (by kernel_rfl)

set_option maxRecDepth 100000 in
theorem small_nil {H : Type} {enc : TypeId × Value → H} {w : World} {x : List (DataW H) × List (DataW H) × List MemPlace} (hx : DataW.whole enc Tryz.prog w Tryz.f5.params.toList Rows.fnCutSpec.vars false [Value.slice none 0 0, Value.string ⟨#[]⟩, Value.int .i64 0] 8 = some x) : Rows.uptoSmall H (x.1 ++ x.2.1) = true := by
  obtain ⟨ds, gs, ps⟩ := x
  obtain ⟨p, q, hA, hV, _⟩ := DataW.Whole_of_whole hx
  have hg := bulk_vars gA gB tA tB hV
  rw [Tryz.params5] at hA
  obtain ⟨v0, v1, v2, d0, d1, d2, p0, p1, p2, e, rfl, rfl, h0, h1, h2⟩ := trodAll_three hA
  simp only [Array.mk.injEq, List.cons.injEq, and_true] at e
  obtain ⟨rfl, rfl, rfl⟩ := e
  obtain ⟨f0, h0⟩ := h0
  obtain ⟨f1, h1⟩ := h1
  obtain ⟨f2, h2⟩ := h2
  rcases DataW.trod_slice Tryz.underlying26 h0 with ⟨_, e0⟩ | ⟨a, _, _, _, _, _, _, e0, _⟩
  · obtain ⟨s, e1, e2, _⟩ := DataW.trod_string und9 h1
    cases e0
    cases e2
    obtain ⟨n, _, e3, _⟩ := DataW.trod_int Tryz.underlying3 h2
    cases e3
    have es : s = ⟨#[]⟩ := by
      have := List.singleton_inj.1 e1
      simp only [Value.string.injEq] at this
      exact this.symm
    subst es
    simp only [Rows.uptoSmall, decide_eq_true_eq, List.cons_append, List.nil_append, Rows.uptoBulkAll, Rows.uptoBulk, hg]
    simp
  · have := List.singleton_inj.1 e0
    cases this

set_option maxRecDepth 100000 in
theorem sized (os : Os) {H : Type} (enc : TypeId × Value → H) : (Rows.OpenSpec.upto Rows.fnCutSpec).bare.sizedB enc Tryz.prog Tryz.f5 false ((World.laidAll Tryz.prog os Rows.fnCutUptoRow.laid).forCall (fun _ _ => 0) ⟨#[], #[.slice none 0 0, .string ⟨#[]⟩, .int .i64 0], []⟩).memory #[.slice none 0 0, .string ⟨#[]⟩, .int .i64 0] 8 = true := by kernel_rfl

set_option maxRecDepth 100000 in
theorem witness (os : Os) {H : Type} (enc : TypeId × Value → H) :
    (Rows.OpenSpec.upto Rows.fnCutSpec).preRow enc Tryz.prog Tryz.f5 Rows.fnCutUptoRow.domain false Rows.fnCutUptoRow.laid ((World.laidAll Tryz.prog os Rows.fnCutUptoRow.laid).forCall (fun _ _ => 0) ⟨#[], #[.slice none 0 0, .string ⟨#[]⟩, .int .i64 0], []⟩).memory #[.slice none 0 0, .string ⟨#[]⟩, .int .i64 0] := by
  have h : (DataW.whole enc Tryz.prog ((World.laidAll Tryz.prog os Rows.fnCutUptoRow.laid).forCall (fun _ _ => 0) ⟨#[], #[.slice none 0 0, .string ⟨#[]⟩, .int .i64 0], []⟩).memory Tryz.f5.params.toList Rows.fnCutSpec.vars false #[Value.slice none 0 0, Value.string ⟨#[]⟩, Value.int .i64 0].toList 8).isSome = true := by kernel_rfl
  obtain ⟨x, hx⟩ := Option.isSome_iff_exists.1 h
  exact OpenSpec.preRow_of_cond 8 hx rfl (fun k hk => by cases hk; exact small_nil hx) (sized os enc) (laid_met os _)

set_option maxRecDepth 100000 in
theorem lifted (os : Os) (started : os.Started) (H : Type) (enc : TypeId × Value → H) (F : Stop.Interp) :
    ReturnsInHanded {} Tryz.checked os 5 .any ((Rows.OpenSpec.upto Rows.fnCutSpec).preRow enc Tryz.prog Tryz.f5 Rows.fnCutUptoRow.domain false Rows.fnCutUptoRow.laid) (((Rows.OpenSpec.upto Rows.fnCutSpec).at F).post enc Tryz.prog Tryz.f5 false true false false) := by
  refine returnsInHanded_of_row (C := Tryz.checked) (s := Rows.OpenSpec.upto Rows.fnCutSpec) own' started (by kernel_rfl) Tryz.func5
    (witness_row_atRef (enc := enc) (C := Tryz.checked) false (World.laidAll Tryz.prog os Rows.fnCutUptoRow.laid) #[.slice none 0 0, .string ⟨#[]⟩, .int .i64 0] (World.laidAll_os _ _ _) (by kernel_rfl) (by kernel_rfl) (by kernel_rfl) (witness os enc)) ?_
  intro W base args ds gs before hval hW _ hcond _ hL _ _
  exact contract H enc W base args ds gs before hval hW hL (hcond _ rfl)

theorem band {a b : Bool} (h : a = true) (k : b = true) : (a && b) = true := by rw [h, k]; rfl
set_option maxRecDepth 100000 in
set_option maxHeartbeats 10000000 in
theorem facts : joinedFacts Tryz.prog 5 Tryz.f5 (Rows.OpenSpec.upto Rows.fnCutSpec).bare Rows.fnCutUptoRow = true := by
  unfold joinedFacts
  refine band (band (band (band (band (band (band (band (band (band (band (band (band (band (band (band (band (band (band (band (band (band (band (band (band (band (band (band (band (band (band ?_ ?_) ?_) ?_) ?_) ?_) ?_) ?_) ?_) ?_) ?_) ?_) ?_) ?_) ?_) ?_) ?_) ?_) ?_) ?_) ?_) ?_) ?_) ?_) ?_) ?_) ?_) ?_) ?_) ?_) ?_) ?_
  all_goals as_aux_lemma => kernel_rfl
theorem saidUpto : Rows.FnCutUptoSaid :=
  OpenClaim.holds_of_cond 5 Tryz.f5 rfl rfl rfl rfl rfl rfl rfl ⟨rfl, rfl, rfl, rfl, rfl⟩ rfl rfl rfl rfl rfl (by kernel_rfl) Tryz.func5 facts
    (of_decide_eq_true (by kernel_rfl)) (by unfold Func.isWrapper; first | (rw [if_pos (by decide +kernel)]; kernel_rfl) | (rw [if_neg (by decide +kernel)]; exact ⟨rfl, rfl⟩))
    (fun os started H enc _ F => by rw [OpenClaim.pre_eq_preRow]; exact lifted os started H enc F)

theorem plain (f : FuncId) (fn : Func) (hf : Tryz.pinned.checked.prog.funcNamed "loop.example/pub-mailparts/laws.FnCut" = some f) (hfn : Tryz.pinned.checked.prog.funcs[f]? = some fn) :
    true = Tryz.pinned.checked.prog.looks [] ∧ ∀ (j : Nat) t, fn.params[j]? = some t → Tryz.pinned.checked.prog.wantsStandIn t = false := by
  obtain rfl : f = 5 := Option.some.inj ((show Tryz.prog.funcNamed "loop.example/pub-mailparts/laws.FnCut" = some 5 by kernel_rfl).symm.trans hf) |>.symm
  obtain rfl : fn = Tryz.f5 := (Option.some.inj (Tryz.func5.symm.trans hfn)).symm
  refine ⟨by kernel_rfl, fun j t ht => ?_⟩
  rw [Tryz.params5] at ht
  have hm : t ∈ #[26, 9, 3] := Array.mem_of_getElem? ht
  simp only [List.mem_toArray, List.mem_cons, List.not_mem_nil, or_false] at hm
  rcases hm with rfl | rfl | rfl
  · exact (show Tryz.prog.wantsStandIn 26 = false by kernel_rfl)
  · exact (show Tryz.prog.wantsStandIn 9 = false by kernel_rfl)
  · exact (show Tryz.prog.wantsStandIn 3 = false by kernel_rfl)

theorem cardUpto : Rows.FnCutUptoCardSaid :=
  Claim7.holds_tied_plain_at .later [] _ _ _ _ saidUpto (fun _ h => by cases h) (by kernel_rfl) (fun _ h => by cases h) fnCutUpto_row_tie rfl ⟨rfl, rfl⟩ (by kernel_rfl) rfl plain (by kernel_rfl)
end FnCut
end Go.Proofs.YtfajmapajpfocaaGreatDoor
