/-
  A part of the proof: The law FnFields, its second form: its row and its tied card.
  Conditions: each contract's own.
-/
import Derived.SevenTiedAt
import Derived.Carry
import Derived.Deep.DeepHandedRow
import Derived.Deep.DeepWitnessRowRef
import Derived.SizedLaws
import Derived.Test.YteajpfckbnfdaaaGreatDoorH27
import Derived.Test.YteajpfckbnfdaaaGreatDoorH28
import Derived.Test.YteajpfckbnfdaaaGreatDoorH32
set_option linter.all false
namespace Go.Proofs.YteajpfckbnfdaaaGreatDoor
open Go Go.Cps Go.ChangeShapes Go.WideShapes Go.ChangeAt Go.RowKit
namespace FnFields
theorem varsOk' : varsRowed Tryz.prog Rows.fnFieldsSpec.vars = true := by kernel_rfl
theorem keep_eof : Rows.fnFieldsUptoRow.laid.filter (fun x => x.1 == "io.EOF" || x.1 == "io.ErrUnexpectedEOF") = [("io.EOF", Rows.laid_io_EOF), ("io.ErrUnexpectedEOF", Rows.laid_io_ErrUnexpectedEOF)] := by kernel_rfl
theorem keep_full : Rows.fnFieldsUptoRow.laid.filter (fun x => x.1 == "bufio.ErrBufferFull") = [("bufio.ErrBufferFull", Rows.laid_bufio_ErrBufferFull)] := by kernel_rfl
theorem keep_asc : Rows.fnFieldsUptoRow.laid.filter (fun x => x.1 == "strings.asciiSpace") = [("strings.asciiSpace", Rows.laid_strings_asciiSpace)] := by kernel_rfl
theorem errs {W : World} (hL : laidMetH Tryz.prog Rows.fnFieldsUptoRow.laid W) : (∃ ea ua : Addr, Errs W.heap.size ea ua W.heap) ∧ AscAt W.heap := by
  rw [MakeChecks.laidMetH_plain _ _ _ (by kernel_rfl)] at hL
  have h1 := hL.filter (fun x => x.1 == "io.EOF" || x.1 == "io.ErrUnexpectedEOF")
  have h2 := hL.filter (fun x => x.1 == "bufio.ErrBufferFull")
  have h3 := hL.filter (fun x => x.1 == "strings.asciiSpace")
  rw [keep_eof] at h1
  rw [keep_full] at h2
  rw [keep_asc] at h3
  exact ⟨errs_of h1 h2, asc_of h3⟩
theorem vars_len {H : Type} {enc : TypeId × Value → H} {P : Program} {w : World} {sp : Nat → Bool} : ∀ {ns : List String} {gs : List (DataW H)} {ps : List MemPlace}, DataW.TrodVars enc P w sp ns gs ps → gs.length = ns.length
  | [], [], _, _ => rfl
  | [], _ :: _, _, h => h.elim
  | _ :: _, [], _, h => h.elim
  | _ :: ns, _ :: gs, _, h => by
    obtain ⟨_, _, _, _, _, _, _, _, _, _, h, _⟩ := h
    rw [List.length_cons, List.length_cons, vars_len h]
theorem vars_eight {H : Type} {gs : List (DataW H)} (h : gs.length = 8) : ∃ a b c d e f g i, gs = [a, b, c, d, e, f, g, i] := by
  match gs, h with
  | [a, b, c, d, e, f, g, i], _ => exact ⟨a, b, c, d, e, f, g, i, rfl⟩
theorem vars_bulk {H : Type} {enc : TypeId × Value → H} {w : World} {sp : Nat → Bool} : ∀ {ns : List String} {gs : List (DataW H)} {ps : List MemPlace}, (ns.all fun n => match Tryz.prog.globalNamed n with | some g => (Tryz.prog.globals[g]?).map (·.type) == some 43 | none => false) = true → DataW.TrodVars enc Tryz.prog w sp ns gs ps → Rows.uptoBulkAll gs = ns.length
  | [], [], _, _, _ => rfl
  | [], _ :: _, _, _, h => h.elim
  | _ :: _, [], _, _, h => h.elim
  | n :: ns, g :: gs, _, ha, h => by
    obtain ⟨g0, t, cs, fuel, p, q, e1, e2, _, h1, h2, _⟩ := h
    simp only [List.all_cons, Bool.and_eq_true] at ha
    obtain ⟨ha1, ha2⟩ := ha
    rw [e1] at ha1
    simp only [beq_iff_eq] at ha1
    rw [e2] at ha1
    cases ha1
    obtain ⟨ms, h60⟩ := und60
    have b1 : Rows.uptoBulk g = 1 := bulk_iface h60 h1
    simp only [Rows.uptoBulkAll, b1, vars_bulk ha2 h2, List.length_cons]
    omega
theorem vars_types : (Rows.fnFieldsSpec.vars.all fun n => match Tryz.prog.globalNamed n with | some g => (Tryz.prog.globals[g]?).map (·.type) == some 43 | none => false) = true := by kernel_rfl
theorem field_le {l : List FieldL} {n : Nat} (h : (l.map fieldSize).sum ≤ n) : (l.map (·.value.length)).sum ≤ n ∧ ∀ f ∈ l, f.name.length ≤ n ∧ f.file.length ≤ n := by
  induction l generalizing n with
  | nil => simp
  | cons f l ih =>
    simp only [List.map_cons, List.sum_cons] at h ⊢
    obtain ⟨h1, h2⟩ := ih (n := n - fieldSize f) (by omega)
    refine ⟨by have : fieldSize f = f.name.length + f.file.length + f.value.length + 1 := rfl
               omega, fun g hg => ?_⟩
    have : fieldSize f = f.name.length + f.file.length + f.value.length + 1 := rfl
    rcases List.mem_cons.1 hg with rfl | hg
    · omega
    · have := h2 g hg; omega
set_option maxRecDepth 100000 in
theorem contract (H : Type) (enc : TypeId × Value → H) (W : World) (base : Nat) (args : Array Value) (ds gs : List (DataW H)) (before : List MemPlace)
    (hval0 : ∀ (j : Nat) t v, Tryz.f3.params[j]? = some t → args[j]? = some v → Value.okWide Tryz.prog W .any base t v)
    (hW : DataW.Whole enc Tryz.prog Tryz.f3.params.toList Rows.fnFieldsSpec.vars false W args.toList ds gs before) (hL : laidMetH Tryz.prog Rows.fnFieldsUptoRow.laid W)
    (hk : Rows.uptoSmall H (ds ++ gs) = true) :
    Calls Tryz.prog 3 args W fun e W' => ∃ v, e = .returned v ∧ Rows.fnFieldsSpec.post enc Tryz.prog Tryz.f3 false true false false W args v W' := by
  have hval := hval0
  have hW' := hW
  have hltW := fun x hx => hW'.lt x hx
  obtain ⟨p, q, hA0, hV, rfl, _, _⟩ := hW
  have hA : DataW.TrodAll enc Tryz.prog W 0 (fun _ => true) true Tryz.f3.params.toList args.toList ds p := hA0
  rw [Tryz.params3] at hA hval
  obtain ⟨v0, v1, d0, d1, p0, p1, rfl, rfl, rfl, h0, h1⟩ := trodAll_two hA
  obtain ⟨l, hl, hs, hn⟩ := arg_fields (hval 0 22 v0 rfl rfl) h0
  obtain ⟨bd, rfl, hb⟩ := arg_text (hval 1 9 v1 rfl rfl) h1
  obtain ⟨⟨ea, ua, hE⟩, hasc⟩ := errs hL
  have hbulk : Rows.uptoBulkAll ([d0, d1] ++ gs) ≤ 1048576 := of_decide_eq_true hk
  simp only [List.cons_append, List.nil_append, Rows.uptoBulkAll] at hbulk
  obtain ⟨g1, g2⟩ := field_le (l := l) (n := 1048576) (by omega)
  refine (calls_of' (fnFields_ok hl hE (Nat.le_refl _) hasc (by omega) (by omega) (by omega) (fun f hf => by have := g2 f hf; omega))).mono fun e W' ⟨he, hbl⟩ => ?_
  subst he
  have hV' := hbl.trodVars laidOut' varsOk' hV
  obtain ⟨g1, g2, g3, g4, g5, g6, g7, g8, rfl⟩ := vars_eight (vars_len hV)
  refine ⟨_, rfl, _, _, _, [], p0 ++ p1, q, hW', ?_, ?_, ?_, hbl.frame _, fun h => by cases h⟩
  · show DataW.TrodAll enc Tryz.prog W' _ _ _ [4] [.bool true] [.lit (.bool true)] []
    exact trodAll_mk1 (shut_bool Tryz.underlying4 _)
  · show DataW.TrodAll enc Tryz.prog W' _ _ _ Tryz.f3.params.toList [_, _] [d0, d1] (p0 ++ p1)
    rw [Tryz.params3]
    exact trodAll_mk2 (Below.trod laidOut' (by kernel_rfl) (of_decide_eq_true (by kernel_rfl)) h0 hbl (fun x hx => by simpa using hltW x (by simp [hx]))) (Below.trod laidOut' (by kernel_rfl) (of_decide_eq_true (by kernel_rfl)) h1 hbl (fun x hx => by simpa using hltW x (by simp [hx])))
  · exact hV'
theorem laid_met (os : Os) (args : Array Value) : laidMetH Tryz.prog Rows.fnFieldsUptoRow.laid ((World.laidAll Tryz.prog os Rows.fnFieldsUptoRow.laid).forCall (fun _ _ => 0) ⟨#[], args, []⟩).memory := by
  rw [MakeChecks.laidMetH_plain _ _ _ (by kernel_rfl)]
  exact laidMet_laidAll _ (by kernel_rfl) (by kernel_rfl)
set_option maxRecDepth 100000 in
theorem small_nil {H : Type} {enc : TypeId × Value → H} {w : World} {x : List (DataW H) × List (DataW H) × List MemPlace} (hx : DataW.whole enc Tryz.prog w Tryz.f3.params.toList Rows.fnFieldsSpec.vars false [Value.slice none 0 0, Value.string ⟨#[]⟩] 8 = some x) : Rows.uptoSmall H (x.1 ++ x.2.1) = true := by
  obtain ⟨ds, gs, ps⟩ := x
  obtain ⟨p, q, hA, hV, _⟩ := DataW.Whole_of_whole hx
  have hg := vars_bulk vars_types hV
  rw [Tryz.params3] at hA
  obtain ⟨v0, v1, d0, d1, p0, p1, e, rfl, rfl, h0, h1⟩ := trodAll_two hA
  simp only [Array.mk.injEq, List.cons.injEq, and_true] at e
  obtain ⟨rfl, rfl⟩ := e
  obtain ⟨f0, h0⟩ := h0
  obtain ⟨f1, h1⟩ := h1
  rcases DataW.trod_slice Tryz.underlying22 h0 with ⟨_, e0⟩ | ⟨a, _, _, _, _, _, _, e0, _⟩
  · obtain ⟨s, e1, e2, _⟩ := DataW.trod_string und9 h1
    cases e0
    cases e2
    have es : s = ⟨#[]⟩ := by
      have := List.singleton_inj.1 e1
      simp only [Value.string.injEq] at this
      exact this.symm
    subst es
    have hv8 : Rows.fnFieldsSpec.vars.length = 8 := rfl
    rw [hv8] at hg
    simp only [Rows.uptoSmall, decide_eq_true_eq, List.cons_append, List.nil_append, Rows.uptoBulkAll, Rows.uptoBulk, hg]
    simp
  · have := List.singleton_inj.1 e0
    cases this
set_option maxRecDepth 100000 in
theorem sized (os : Os) {H : Type} (enc : TypeId × Value → H) : (Rows.OpenSpec.upto Rows.fnFieldsSpec).bare.sizedB enc Tryz.prog Tryz.f3 false ((World.laidAll Tryz.prog os Rows.fnFieldsUptoRow.laid).forCall (fun _ _ => 0) ⟨#[], #[.slice none 0 0, .string ⟨#[]⟩], []⟩).memory #[.slice none 0 0, .string ⟨#[]⟩] 8 = true := by kernel_rfl
set_option maxRecDepth 100000 in
theorem witness (os : Os) {H : Type} (enc : TypeId × Value → H) :
    (Rows.OpenSpec.upto Rows.fnFieldsSpec).preRow enc Tryz.prog Tryz.f3 Rows.fnFieldsUptoRow.domain false Rows.fnFieldsUptoRow.laid ((World.laidAll Tryz.prog os Rows.fnFieldsUptoRow.laid).forCall (fun _ _ => 0) ⟨#[], #[.slice none 0 0, .string ⟨#[]⟩], []⟩).memory #[.slice none 0 0, .string ⟨#[]⟩] := by
  have h : (DataW.whole enc Tryz.prog ((World.laidAll Tryz.prog os Rows.fnFieldsUptoRow.laid).forCall (fun _ _ => 0) ⟨#[], #[.slice none 0 0, .string ⟨#[]⟩], []⟩).memory Tryz.f3.params.toList Rows.fnFieldsSpec.vars false #[Value.slice none 0 0, Value.string ⟨#[]⟩].toList 8).isSome = true := by kernel_rfl
  obtain ⟨x, hx⟩ := Option.isSome_iff_exists.1 h
  exact OpenSpec.preRow_of_cond 8 hx rfl (fun k hk => by cases hk; exact small_nil hx) (sized os enc) (laid_met os _)
set_option maxRecDepth 100000 in
theorem lifted (os : Os) (started : os.Started) (H : Type) (enc : TypeId × Value → H) (F : Stop.Interp) :
    ReturnsInHanded {} Tryz.checked os 3 .any ((Rows.OpenSpec.upto Rows.fnFieldsSpec).preRow enc Tryz.prog Tryz.f3 Rows.fnFieldsUptoRow.domain false Rows.fnFieldsUptoRow.laid) (((Rows.OpenSpec.upto Rows.fnFieldsSpec).at F).post enc Tryz.prog Tryz.f3 false true false false) := by
  refine returnsInHanded_of_row (C := Tryz.checked) (s := Rows.OpenSpec.upto Rows.fnFieldsSpec) own' started (by kernel_rfl) Tryz.func3
    (witness_row_atRef (enc := enc) (C := Tryz.checked) false (World.laidAll Tryz.prog os Rows.fnFieldsUptoRow.laid) #[.slice none 0 0, .string ⟨#[]⟩] (World.laidAll_os _ _ _) (by kernel_rfl) (by kernel_rfl) (by kernel_rfl) (witness os enc)) ?_
  intro W base args ds gs before hval hW _ hcond _ hL _ _
  exact contract H enc W base args ds gs before hval hW hL (hcond _ rfl)
theorem band {a b : Bool} (h : a = true) (k : b = true) : (a && b) = true := by rw [h, k]; rfl
set_option maxRecDepth 100000 in
set_option maxHeartbeats 10000000 in
theorem facts : joinedFacts Tryz.prog 3 Tryz.f3 (Rows.OpenSpec.upto Rows.fnFieldsSpec).bare Rows.fnFieldsUptoRow = true := by
  unfold joinedFacts
  refine band (band (band (band (band (band (band (band (band (band (band (band (band (band (band (band (band (band (band (band (band (band (band (band (band (band (band (band (band (band (band ?_ ?_) ?_) ?_) ?_) ?_) ?_) ?_) ?_) ?_) ?_) ?_) ?_) ?_) ?_) ?_) ?_) ?_) ?_) ?_) ?_) ?_) ?_) ?_) ?_) ?_) ?_) ?_) ?_) ?_) ?_) ?_
  all_goals as_aux_lemma => kernel_rfl
theorem saidUpto : Rows.FnFieldsUptoSaid :=
  OpenClaim.holds_of_cond 3 Tryz.f3 rfl rfl rfl rfl rfl rfl rfl ⟨rfl, rfl, rfl, rfl, rfl⟩ rfl rfl rfl rfl rfl (by kernel_rfl) Tryz.func3 facts
    (of_decide_eq_true (by kernel_rfl)) (by unfold Func.isWrapper; first | (rw [if_pos (by decide +kernel)]; kernel_rfl) | (rw [if_neg (by decide +kernel)]; exact ⟨rfl, rfl⟩))
    (fun os started H enc _ F => by rw [OpenClaim.pre_eq_preRow]; exact lifted os started H enc F)
theorem plain (f : FuncId) (fn : Func) (hf : Tryz.pinned.checked.prog.funcNamed "loop.example/pub-mailparts/laws.FnFields" = some f) (hfn : Tryz.pinned.checked.prog.funcs[f]? = some fn) :
    true = Tryz.pinned.checked.prog.looks [] ∧ ∀ (j : Nat) t, fn.params[j]? = some t → Tryz.pinned.checked.prog.wantsStandIn t = false := by
  obtain rfl : f = 3 := Option.some.inj ((show Tryz.prog.funcNamed "loop.example/pub-mailparts/laws.FnFields" = some 3 by kernel_rfl).symm.trans hf) |>.symm
  obtain rfl : fn = Tryz.f3 := (Option.some.inj (Tryz.func3.symm.trans hfn)).symm
  refine ⟨by kernel_rfl, fun j t ht => ?_⟩
  rw [Tryz.params3] at ht
  have hm : t ∈ #[22, 9] := Array.mem_of_getElem? ht
  simp only [List.mem_toArray, List.mem_cons, List.not_mem_nil, or_false] at hm
  rcases hm with rfl | rfl
  · exact (show Tryz.prog.wantsStandIn 22 = false by kernel_rfl)
  · exact (show Tryz.prog.wantsStandIn 9 = false by kernel_rfl)
theorem cardUpto : Rows.FnFieldsUptoCardSaid :=
  Claim7.holds_tied_plain_at .later [] _ _ _ _ saidUpto (fun _ h => by cases h) (by kernel_rfl) (fun _ h => by cases h) ownFieldsUpto_tie rfl ⟨rfl, rfl⟩ (by kernel_rfl) rfl plain (by kernel_rfl)
end FnFields
end Go.Proofs.YteajpfckbnfdaaaGreatDoor
