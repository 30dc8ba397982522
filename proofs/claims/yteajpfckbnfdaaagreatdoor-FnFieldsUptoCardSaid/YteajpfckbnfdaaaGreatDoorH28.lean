/-
  A part of the proof: The arguments of this program: fields, parts. What the laid variables tell: io.EOF, io.ErrUnexpectedEOF, bufio.ErrBufferFull. Arguments of a call read as what they stand for; the bulk of the variables. What the laid variables of FnFields' row tell: two cells of strings.asciiSpace; io.EOF and io.ErrUnexpectedEOF apart on the list. The variables that the row lists, with what they hold.
  Conditions: each contract's own.
-/
import Derived.Stop.LaidTwo
import Derived.LaidLaws
import Derived.Test.YteajpfckbnfdaaaGreatDoorCards
import Derived.WalkKit
import Derived.ProofKit
import Derived.OpenShut
import Derived.OpenVars
import Derived.Lay
import Derived.Stop.Joined
import Derived.Stop.LaidErr
import Derived.RowKit
import Derived.Carry
import Derived.LaidSub
import Derived.Test.YteajpfckbnfdaaaGreatDoorRows
import Derived.LaidByTextLater
import Derived.SevenTiedAt
import Derived.LaidOnce
import Derived.Test.YteajpfckbnfdaaaGreatDoorH8
import Derived.Test.YteajpfckbnfdaaaGreatDoorH10
import Derived.Test.YteajpfckbnfdaaaGreatDoorH12
import Derived.Test.YteajpfckbnfdaaaGreatDoorH25
import Derived.Test.YteajpfckbnfdaaaGreatDoorH27
set_option linter.all false
namespace Go.Proofs.YteajpfckbnfdaaaGreatDoor
open Go Go.Cps
theorem cells5 : Tryz.prog.cellsOf 5 = 1 := by kernel_rfl
theorem cells9' : Tryz.prog.cellsOf 9 = 1 := by kernel_rfl
theorem cells23 : Tryz.prog.cellsOf 27 = 1 := by kernel_rfl
theorem cells80 : Tryz.prog.cellsOf 31 = 3 := by kernel_rfl
theorem len_three {α : Type} {l : List α} (h : l.length = 3) : ∃ a b c, l = [a, b, c] := by
  match l, h with
  | [a, b, c], _ => exact ⟨a, b, c, rfl⟩
section
variable {H : Type} {enc : TypeId × Value → H} {w : World} {base : Nat} {held : Bool} {fuel : Nat} {cs : List Value} {x : DataW H × List MemPlace}
theorem open_body (h : DataW.trod enc Tryz.prog w base (fun _ => true) held fuel 27 cs = some x) : ∃ v l, cs = [v] ∧ BytV [] w.heap v l ∧ l.length + 1 ≤ Rows.uptoBulk x.1 := open_bytes Tryz.underlying27 Tryz.underlying5 cells5 h
theorem open_text (h : DataW.trod enc Tryz.prog w base (fun _ => true) held fuel 9 cs = some x) : ∃ l : List UInt8, cs = [Cps.strVal l] ∧ l.length + 1 ≤ Rows.uptoBulk x.1 := open_str und9 h
def fieldSize (f : FieldL) : Nat := f.name.length + f.file.length + f.value.length + 1
theorem open_field (hl : cs.length = 3) (h : DataW.trod enc Tryz.prog w base (fun _ => true) held fuel 31 cs = some x) : ∃ f : FieldL, FieldR [] w.heap f cs ∧ fieldSize f ≤ Rows.uptoBulk x.1 := by
  obtain ⟨xs, n, rfl, rfl, _, hxl, hf⟩ := DataW.trod_struct Tryz.underlying31 h
  obtain ⟨y0, y1, y2, rfl⟩ := len_three hxl
  obtain ⟨c0, c1, c2, rfl⟩ := len_three hl
  · · skip
      have h0 : DataW.trod enc Tryz.prog w base (fun _ => true) held n 9 (([c0, c1, c2].drop 0).take (Tryz.prog.cellsOf 9)) = some y0 := hf 0 _ rfl
      rw [cells9'] at h0
      replace h0 : DataW.trod enc Tryz.prog w base (fun _ => true) held n 9 [c0] = some y0 := h0
      have h1 : DataW.trod enc Tryz.prog w base (fun _ => true) held n 9 (([c0, c1, c2].drop 1).take (Tryz.prog.cellsOf 9)) = some y1 := hf 1 _ rfl
      rw [cells9'] at h1
      replace h1 : DataW.trod enc Tryz.prog w base (fun _ => true) held n 9 [c1] = some y1 := h1
      have h2 : DataW.trod enc Tryz.prog w base (fun _ => true) held n 27 (([c0, c1, c2].drop 2).take (Tryz.prog.cellsOf 27)) = some y2 := hf 2 _ rfl
      rw [cells23] at h2
      replace h2 : DataW.trod enc Tryz.prog w base (fun _ => true) held n 27 [c2] = some y2 := h2
      obtain ⟨a, e0, s0⟩ := open_text h0
      obtain ⟨b, e1, s1⟩ := open_text h1
      obtain ⟨v, c, e2, hv, s2⟩ := open_body h2
      replace e0 := List.singleton_inj.1 e0
      subst e0
      obtain rfl := List.singleton_inj.1 e1
      obtain rfl := List.singleton_inj.1 e2
      refine ⟨⟨a, b, c⟩, ⟨_, rfl, hv⟩, ?_⟩
      simp only [fieldSize, List.map_cons, List.map_nil, Rows.uptoBulk, Rows.uptoBulkAll]
      omega
theorem open_fields (h : DataW.trod enc Tryz.prog w base (fun _ => true) held fuel 22 cs = some x) : ∃ v l, cs = [v] ∧ FieldsV [] w.heap v l ∧ (l.map fieldSize).sum + 1 ≤ Rows.uptoBulk x.1 ∧ l.length + 1 ≤ Rows.uptoBulk x.1 :=
  open_sl (R := FieldR) Tryz.underlying22 cells80 (by omega) (fun _ _ _ hl h => open_field hl h) h
end
theorem one_cell {v : Value} {u : Value} (h : v.cells.toList = [u]) (hn : ∀ cs, v ≠ .agg cs) : v = u := by
  cases v <;> first | (simpa [Value.cells] using h) | exact absurd rfl (hn _)
end Go.Proofs.YteajpfckbnfdaaaGreatDoor
namespace Go.Proofs.YteajpfckbnfdaaaGreatDoor
open Go Go.Cps Go.RowKit
theorem gEOF' : Tryz.prog.globalNamed "io.EOF" = some 0 := by kernel_rfl
theorem gEOFType' : (Tryz.prog.globals[0]?).map (·.type) = some 43 := by kernel_rfl
theorem gUEF : Tryz.prog.globalNamed "io.ErrUnexpectedEOF" = some 27 := by kernel_rfl
theorem gUEFType : (Tryz.prog.globals[27]?).map (·.type) = some 43 := by kernel_rfl
theorem gFull : Tryz.prog.globalNamed "bufio.ErrBufferFull" = some 1 := by kernel_rfl
theorem gFullType : (Tryz.prog.globals[1]?).map (·.type) = some 43 := by kernel_rfl
theorem cells140' : Tryz.prog.cellsOf 111 = 1 := by kernel_rfl
theorem star' : "*" ++ "errors.errorString" = "*errors.errorString" := by decide
theorem row138' (u : TypeId) (h : Tryz.prog.typeName? 3 u = some "*errors.errorString") : u = 109 :=
  typeName_ptr_named (nm := "errors.errorString") (by rw [star']; kernel_rfl) (by kernel_rfl) (by decide) u (by rw [star']; exact h)
theorem var_heap {W : World} {n : String} {g : Nat} {cs : Array Value} (hg : Tryz.prog.globalNamed n = some g) (hv : W.var? Tryz.prog n = some cs) : ∃ t f, W.heap[g]? = some (.cells cs t f) := by
  unfold World.var? at hv
  rw [hg] at hv
  simp only [Option.bind_some] at hv
  cases hh : W.heap[g]? with
  | none => rw [hh] at hv; simp at hv
  | some o =>
    rw [hh] at hv
    cases o <;> simp at hv
    subst hv
    exact ⟨_, _, rfl⟩
theorem errs_of {W : World} {r r' : List (String × DataW Unit)} (h : laidMet Tryz.prog (("io.EOF", Rows.laid_io_EOF) :: ("io.ErrUnexpectedEOF", Rows.laid_io_ErrUnexpectedEOF) :: r) W) (h' : laidMet Tryz.prog (("bufio.ErrBufferFull", Rows.laid_bufio_ErrBufferFull) :: r') W) :
    ∃ ea ua : Addr, Errs W.heap.size ea ua W.heap := by
  obtain ⟨ms, h60⟩ := und60
  obtain ⟨ea, ua, s0, s1, c0, c1, t0, t1, hv0, hv1, _, _, _, _, _, _, hne, hb0, hb1⟩ := laid_sentinels2 h gEOF' gEOFType' gUEF gUEFType h60 row138' und138 Tryz.underlying111 rfl rfl und9 cells140' cells9'
  obtain ⟨fa, s, hv4, _, _, _⟩ := laid_sentinel h' gFull gFullType h60 row138' und138 Tryz.underlying111 rfl rfl und9 cells140' cells9'
  obtain ⟨t, f, e0⟩ := var_heap gEOF' hv0
  obtain ⟨t', f', e16⟩ := var_heap gUEF hv1
  obtain ⟨t'', f'', e4⟩ := var_heap gFull hv4
  exact ⟨ea, ua, ⟨_, _, e0⟩, ⟨_, _, e16⟩, hne, ⟨lt_of_some hb0, _, _, hb0⟩, ⟨lt_of_some hb1, _, _, hb1⟩, lt_of_some e16, ⟨_, _, _, _, e4⟩⟩
end Go.Proofs.YteajpfckbnfdaaaGreatDoor
namespace Go.Proofs.YteajpfckbnfdaaaGreatDoor
open Go Go.Cps Go.ChangeShapes Go.WideShapes Go.ChangeAt Go.RowKit
theorem own' : ownKnob Tryz.prog.godebug = none := by kernel_rfl
theorem laidOut' : laidOutB Tryz.prog = true := by kernel_rfl
theorem calls_of' {f : FuncId} {args : Array Value} {W : World} (h : CallsH Tryz.prog f args W.heap fun x H' => x = .bool true ∧ Frm [] W.heap H') :
    Calls Tryz.prog f args W fun e W' => e = .returned (.bool true) ∧ Go.RowKit.Below W.heap.size W W' := by
  refine (h W rfl).mono ?_
  rintro e W' ⟨v, rfl, hs, rfl, hf⟩
  exact ⟨rfl, hs.os, hs.tape, hs.output, hf.size, fun k hk => hf.same k hk (by simp)⟩
set_option maxRecDepth 100000 in
theorem no_agg {t e : TypeId} {W : World} {base : Nat} {v : Value} (ht : Tryz.prog.underlying t = some (.slice e)) (h : Value.okWide Tryz.prog W .any base t v) : ∀ cs, v ≠ .agg cs := by
  rintro cs rfl
  unfold Value.okWide at h
  rw [ht] at h
  simp only [Cell.okWide, Cell.ok, ht] at h
set_option maxRecDepth 100000 in
theorem no_agg_str {t : TypeId} {W : World} {base : Nat} {v : Value} (ht : Tryz.prog.underlying t = some .string) (h : Value.okWide Tryz.prog W .any base t v) : ∀ cs, v ≠ .agg cs := by
  rintro cs rfl
  unfold Value.okWide at h
  rw [ht] at h
  simp only [Cell.okWide, Cell.ok, ht] at h
section
variable {H : Type} {enc : TypeId × Value → H} {W : World} {base b0 : Nat} {held : Bool} {v : Value} {d : DataW H} {p : List MemPlace}
set_option maxRecDepth 100000 in
theorem arg_fields (hok : Value.okWide Tryz.prog W .any b0 22 v) (h : DataW.Trod enc Tryz.prog W base (fun _ => true) held 22 v d p) : ∃ l, FieldsV [] W.heap v l ∧ (l.map fieldSize).sum + 1 ≤ Rows.uptoBulk d ∧ l.length + 1 ≤ Rows.uptoBulk d := by
  obtain ⟨fuel, h⟩ := h
  obtain ⟨u, l, e, h1, h2, h3⟩ := open_fields h
  have hna : ∀ cs, v ≠ .agg cs := no_agg (t := 22) (e := 31) Tryz.underlying22 hok
  have hvu := one_cell e hna
  subst hvu
  exact ⟨l, h1, h2, h3⟩
set_option maxRecDepth 100000 in
theorem arg_text (hok : Value.okWide Tryz.prog W .any b0 9 v) (h : DataW.Trod enc Tryz.prog W base (fun _ => true) held 9 v d p) : ∃ l, v = Cps.strVal l ∧ l.length + 1 ≤ Rows.uptoBulk d := by
  obtain ⟨fuel, h⟩ := h
  obtain ⟨l, e, h2⟩ := open_text h
  have hna : ∀ cs, v ≠ .agg cs := no_agg_str (t := 9) und9 hok
  have hvu := one_cell e hna
  subst hvu
  exact ⟨l, rfl, h2⟩
end
theorem bulk_iface {H : Type} {enc : TypeId × Value → H} {P : Program} {w : World} {base : Nat} {sp : Nat → Bool} {fuel : Nat} {t : TypeId} {ms : Array (String × TypeId)} {cs : List Value} {x : DataW H × List MemPlace} (ht : P.underlying t = some (.interface ms))
    (h : DataW.trod enc P w base sp true fuel t cs = some x) : Rows.uptoBulk x.1 = 1 := by
  cases fuel with
  | zero => simp [DataW.trod] at h
  | succ n =>
    unfold DataW.trod at h
    rw [ht] at h
    split at h <;> simp_all
    · rw [← h]; simp [Rows.uptoBulk]
    · rw [← h]; simp [Rows.uptoBulk]
end Go.Proofs.YteajpfckbnfdaaaGreatDoor
namespace Go.Proofs.YteajpfckbnfdaaaGreatDoor
open Go Go.Cps Go.RowKit
theorem arr_cell {P : Program} {w : World} {base fuel n : Nat} {sp : Nat → Bool} {t e : TypeId} {cs : List Value} {ds : List (DataW Unit)} {p : List MemPlace} (ht : P.underlying t = some (.array n e)) (he : P.underlying e = some (.int .u8)) (hc : P.cellsOf e = 1)
    (h : DataW.trod (fun _ => ()) P w base sp false fuel t cs = some (.agg ds, p)) {i : Nat} (hi : i < n) {v : Int} (hd : ds[i]? = some (.lit (.int .u8 v))) : cs[i]? = some (.int .u8 v) := by
  obtain ⟨xs, m, rfl, hx, hl, hxl, hg⟩ := DataW.trod_array ht h
  simp only [Prod.mk.injEq, DataW.agg.injEq] at hx
  obtain ⟨rfl, rfl⟩ := hx
  have h1 := hg i hi
  rw [hc, Nat.mul_one] at h1
  have hxi : i < xs.length := by omega
  rw [List.getElem?_eq_getElem hxi] at h1
  rw [List.getElem?_map, List.getElem?_eq_getElem hxi] at hd
  simp only [Option.map_some, Option.some.injEq] at hd
  obtain ⟨k, e1, e2, _⟩ := DataW.trod_int he h1
  have e3 : (xs[i]).1 = .lit (.int .u8 k) := by rw [e2]
  rw [e3] at hd
  simp only [DataW.lit.injEq, Lit.int.injEq, true_and] at hd
  subst hd
  have h2 : (cs.drop i)[0]? = some (.int .u8 k) := by
    have := congrArg (fun l : List Value => l[0]?) e1
    simpa [List.getElem?_take] using this
  rw [List.getElem?_drop] at h2
  simpa using h2
theorem gAsc : Tryz.prog.globalNamed "strings.asciiSpace" = some 7 := by kernel_rfl
theorem tAsc : ∃ t, (Tryz.prog.globals[7]?).map (·.type) = some t ∧ Tryz.prog.underlying t = some (.array 256 5) := ⟨_, rfl, by kernel_rfl⟩
theorem u5' : Tryz.prog.underlying 5 = some (.int .u8) := by kernel_rfl
theorem c5' : Tryz.prog.cellsOf 5 = 1 := by kernel_rfl
theorem asc_of {W : World} {r : List (String × DataW Unit)} (h : laidMet Tryz.prog (("strings.asciiSpace", Rows.laid_strings_asciiSpace) :: r) W) : AscAt W.heap := by
  obtain ⟨ps, ⟨g, t, cs, fuel, p, q, e1, e2, e3, e4, _, _⟩, _, _⟩ := h
  rw [gAsc] at e1
  cases e1
  obtain ⟨t', e5, e6⟩ := tAsc
  rw [e5] at e2
  cases e2
  obtain ⟨t0, f0, hh⟩ := var_heap gAsc e3
  have c1 : cs.toList[102]? = some (.int .u8 0) := arr_cell e6 u5' c5' e4 (by omega) (by kernel_rfl)
  have c2 : cs.toList[97]? = some (.int .u8 0) := arr_cell e6 u5' c5' e4 (by omega) (by kernel_rfl)
  refine ⟨?_, ?_⟩
  · rw [cellH_of hh]; simpa using c1
  · rw [cellH_of hh]; simpa using c2
end Go.Proofs.YteajpfckbnfdaaaGreatDoor
namespace Go.Proofs.YteajpfckbnfdaaaGreatDoor
open Go
set_option maxRecDepth 100000
abbrev laidL : List (String × DataW Unit) := [("bytes.ErrTooLarge", Rows.laid_bytes_ErrTooLarge), ("io.errInvalidWrite", Rows.laid_io_errInvalidWrite), ("io.ErrShortWrite", Rows.laid_io_ErrShortWrite), ("io.EOF", Rows.laid_io_EOF), ("bufio.ErrBufferFull", Rows.laid_bufio_ErrBufferFull), ("bufio.errNegativeRead", Rows.laid_bufio_errNegativeRead), ("io.ErrNoProgress", Rows.laid_io_ErrNoProgress), ("loop.example/pub-mailparts/pub/multipart.ErrMessageTooLarge", Rows.laid_loop_example_pub_mailparts_pub_multipart_ErrMessageTooLarge), ("loop.example/pub-mailparts/pub/textproto.errMessageTooLarge", Rows.laid_loop_example_pub_mailparts_pub_textproto_errMessageTooLarge), ("bufio.ErrNegativeCount", Rows.laid_bufio_ErrNegativeCount), ("io.ErrUnexpectedEOF", Rows.laid_io_ErrUnexpectedEOF), ("bufio.ErrInvalidUnreadByte", Rows.laid_bufio_ErrInvalidUnreadByte), ("unicode/utf8.acceptRanges", Rows.laid_unicode_utf8_acceptRanges), ("unicode.asciiFold", Rows.laid_unicode_asciiFold), ("unicode.caseOrbit", Rows.laid_unicode_caseOrbit), ("loop.example/pub-mailparts/pub/gomime.ErrInvalidMediaParameter", Rows.laid_loop_example_pub_mailparts_pub_gomime_ErrInvalidMediaParameter), ("loop.example/pub-mailparts/pub/gomime.errDuplicateParamName", Rows.laid_loop_example_pub_mailparts_pub_gomime_errDuplicateParamName), ("strings.asciiSpace", Rows.laid_strings_asciiSpace), ("unicode.White_Space", Rows.laid_unicode_White_Space), ("loop.example/pub-mailparts/pub/gomime.errNoMediaType", Rows.laid_loop_example_pub_mailparts_pub_gomime_errNoMediaType), ("loop.example/pub-mailparts/pub/gomime.errNoSlashAfterFirstToken", Rows.laid_loop_example_pub_mailparts_pub_gomime_errNoSlashAfterFirstToken), ("loop.example/pub-mailparts/pub/gomime.errNoTokenAfterSlash", Rows.laid_loop_example_pub_mailparts_pub_gomime_errNoTokenAfterSlash), ("loop.example/pub-mailparts/pub/gomime.errUnexpectedContentAfterMediaSubtype", Rows.laid_loop_example_pub_mailparts_pub_gomime_errUnexpectedContentAfterMediaSubtype), ("internal/strconv.uint64pow10", Rows.laid_internal_strconv_uint64pow10), ("math/bits.deBruijn32tab", Rows.laid_math_bits_deBruijn32tab), ("math/bits.deBruijn64tab", Rows.laid_math_bits_deBruijn64tab)]
end Go.Proofs.YteajpfckbnfdaaaGreatDoor
