/-
  A part of the proof (its texts: N5): each text says below what it proves.
  Conditions: each contract's own.
-/
import Derived.Test.YtfajmapajpfocaaGreatDoorTie
import Derived.SevenTiedAt
import Derived.Carry
import Derived.Deep.DeepHandedRow
import Derived.Deep.DeepWitnessRowRef
import Derived.SizedLaws
import Derived.Test.YtfajmapajpfocaaGreatDoorE33
set_option linter.all false
/-
  The law FnNested, its second form: its row and its tied card.
  Conditions: none beyond the row's own.
-/
namespace Go.Proofs.YtfajmapajpfocaaGreatDoor
open Go Go.Cps Go.ChangeShapes Go.WideShapes Go.ChangeAt Go.RowKit

namespace FnNested
theorem varsOk' : varsRowed Tryz.prog Rows.fnNestedSpec.vars = true := by kernel_rfl
theorem errs {W : World} (hL : laidMetH Tryz.prog Rows.fnNestedUptoRow.laid W) : ∃ ea ua : Addr, Errs W.heap.size ea ua W.heap := by
  rw [MakeChecks.laidMetH_plain _ _ _ (by kernel_rfl)] at hL
  have h3 := hL.tail.tail.tail
  exact errs_of h3 h3.tail.tail.tail.tail.tail.tail.tail

theorem part_size (l : List PartL) : (l.map partSize).sum = (l.map bulkP).sum := rfl
theorem head_size (l : List Hdr) : (l.map hdrSize).sum = (l.map bulkH).sum := rfl

set_option maxRecDepth 100000 in
theorem contract (H : Type) (enc : TypeId × Value → H) (W : World) (base : Nat) (args : Array Value) (ds gs : List (DataW H)) (before : List MemPlace)
    (hval0 : ∀ (j : Nat) t v, Tryz.f6.params[j]? = some t → args[j]? = some v → Value.okWide Tryz.prog W .any base t v)
    (hW : DataW.Whole enc Tryz.prog Tryz.f6.params.toList Rows.fnNestedSpec.vars false W args.toList ds gs before) (hL : laidMetH Tryz.prog Rows.fnNestedUptoRow.laid W)
    (hk : Rows.uptoSmall H (ds ++ gs) = true) :
    Calls Tryz.prog 6 args W fun e W' => ∃ v, e = .returned v ∧ Rows.fnNestedSpec.post enc Tryz.prog Tryz.f6 false true false false W args v W' := by
  have hval := hval0
  have hW' := hW
  have hltW := fun x hx => hW'.lt x hx
  obtain ⟨p, q, hA0, hV, rfl, _, _⟩ := hW
  have hA : DataW.TrodAll enc Tryz.prog W 0 (fun _ => true) true Tryz.f6.params.toList args.toList ds p := hA0
  rw [Tryz.params6] at hA hval
  obtain ⟨v0, v1, v2, v3, d0, d1, d2, d3, p0, p1, p2, p3, rfl, rfl, rfl, h0, h1, h2, h3⟩ := trodAll_four hA
  obtain ⟨l, hl, hs, hn⟩ := arg_parts (hval 0 26 v0 rfl rfl) h0
  obtain ⟨bd, rfl, hb⟩ := arg_text (hval 1 9 v1 rfl rfl) h1
  obtain ⟨hl2, hh, hhs, _⟩ := arg_heads (hval 2 37 v2 rfl rfl) h2
  obtain ⟨ob, rfl, hob⟩ := arg_text (hval 3 9 v3 rfl rfl) h3
  obtain ⟨ea, ua, hE⟩ := errs hL
  have hbulk : Rows.uptoBulkAll ([d0, d1, d2, d3] ++ gs) ≤ 1048576 := of_decide_eq_true hk
  simp only [List.cons_append, List.nil_append, Rows.uptoBulkAll] at hbulk
  rw [part_size] at hs
  rw [head_size] at hhs
  refine (calls_of' (nested_ok hl hh hE (Nat.le_refl _) (by omega) (by omega) (by omega) (by omega))).mono fun e W' ⟨he, hbl⟩ => ?_
  subst he
  have hV' := hbl.trodVars laidOut' varsOk' hV
  obtain ⟨g1, g2, rfl⟩ := trodVars_two' hV
  refine ⟨_, rfl, _, _, _, [], p0 ++ (p1 ++ (p2 ++ p3)), q, hW', ?_, ?_, ?_, hbl.frame _, fun h => by cases h⟩
  · show DataW.TrodAll enc Tryz.prog W' _ _ _ [4] [.bool true] [.lit (.bool true)] []
    exact trodAll_mk1 (shut_bool Tryz.underlying4 _)
  · show DataW.TrodAll enc Tryz.prog W' _ _ _ Tryz.f6.params.toList [_, _, _, _] [d0, d1, d2, d3] (p0 ++ (p1 ++ (p2 ++ p3)))
    rw [Tryz.params6]
    exact trodAll_mk4 (Below.trod laidOut' (by kernel_rfl) (of_decide_eq_true (by kernel_rfl)) h0 hbl (fun x hx => by simpa using hltW x (by simp [hx])))
      (Below.trod laidOut' (by kernel_rfl) (of_decide_eq_true (by kernel_rfl)) h1 hbl (fun x hx => by simpa using hltW x (by simp [hx])))
      (Below.trod laidOut' (by kernel_rfl) (of_decide_eq_true (by kernel_rfl)) h2 hbl (fun x hx => by simpa using hltW x (by simp [hx])))
      (Below.trod laidOut' (by kernel_rfl) (of_decide_eq_true (by kernel_rfl)) h3 hbl (fun x hx => by simpa using hltW x (by simp [hx])))
  · exact hV'

theorem laid_met (os : Os) (args : Array Value) : laidMetH Tryz.prog Rows.fnNestedUptoRow.laid ((World.laidAll Tryz.prog os Rows.fnNestedUptoRow.laid).forCall (fun _ _ => 0) ⟨#[], args, []⟩).memory := by
  rw [MakeChecks.laidMetH_plain _ _ _ (by kernel_rfl)]
  exact laidMet_laidAll _ (by kernel_rfl) (by kernel_rfl)

set_option maxRecDepth 100000 in
theorem small_nil {H : Type} {enc : TypeId × Value → H} {w : World} {x : List (DataW H) × List (DataW H) × List MemPlace} (hx : DataW.whole enc Tryz.prog w Tryz.f6.params.toList Rows.fnNestedSpec.vars false [Value.slice none 0 0, Value.string ⟨#[]⟩, Value.slice none 0 0, Value.string ⟨#[]⟩] 8 = some x) : Rows.uptoSmall H (x.1 ++ x.2.1) = true := by
  obtain ⟨ds, gs, ps⟩ := x
  obtain ⟨p, q, hA, hV, _⟩ := DataW.Whole_of_whole hx
  have hg := bulk_vars gA gB tA tB hV
  rw [Tryz.params6] at hA
  obtain ⟨v0, v1, v2, v3, d0, d1, d2, d3, p0, p1, p2, p3, e, rfl, rfl, h0, h1, h2, h3⟩ := trodAll_four hA
  simp only [Array.mk.injEq, List.cons.injEq, and_true] at e
  obtain ⟨rfl, rfl, rfl, rfl⟩ := e
  obtain ⟨f0, h0⟩ := h0
  obtain ⟨f1, h1⟩ := h1
  obtain ⟨f2, h2⟩ := h2
  obtain ⟨f3, h3⟩ := h3
  have hstr : ∀ {f : Nat} {d : DataW H} {p : List MemPlace}, DataW.trod enc Tryz.prog w 0 (fun _ => true) true f 9 (Value.string ⟨#[]⟩).cells.toList = some (d, p) → d = .lit (.string []) := by
    intro f d p h
    obtain ⟨s, e1, e2, _⟩ := DataW.trod_string und9 h
    have es : s = ⟨#[]⟩ := by
      have := List.singleton_inj.1 e1
      simp only [Value.string.injEq] at this
      exact this.symm
    subst es
    exact (congrArg Prod.fst e2)
  have hsl : ∀ {t e f : Nat} {d : DataW H} {p : List MemPlace}, Tryz.prog.underlying t = some (.slice e) → DataW.trod enc Tryz.prog w 0 (fun _ => true) true f t (Value.slice none 0 0).cells.toList = some (d, p) → d = .nil := by
    intro t e f d p ht h
    rcases DataW.trod_slice ht h with ⟨_, e0⟩ | ⟨a, _, _, _, _, _, _, e0, _⟩
    · exact congrArg Prod.fst e0
    · have := List.singleton_inj.1 e0
      cases this
  have k0 := hsl Tryz.underlying26 h0
  have k1 := hstr h1
  have k2 := hsl Tryz.underlying37 h2
  have k3 := hstr h3
  subst k0 k1 k2 k3
  simp only [Rows.uptoSmall, decide_eq_true_eq, List.cons_append, List.nil_append, Rows.uptoBulkAll, Rows.uptoBulk, hg]
  simp

set_option maxRecDepth 100000 in
theorem sized (os : Os) {H : Type} (enc : TypeId × Value → H) : (Rows.OpenSpec.upto Rows.fnNestedSpec).bare.sizedB enc Tryz.prog Tryz.f6 false ((World.laidAll Tryz.prog os Rows.fnNestedUptoRow.laid).forCall (fun _ _ => 0) ⟨#[], #[.slice none 0 0, .string ⟨#[]⟩, .slice none 0 0, .string ⟨#[]⟩], []⟩).memory #[.slice none 0 0, .string ⟨#[]⟩, .slice none 0 0, .string ⟨#[]⟩] 8 = true := by kernel_rfl

set_option maxRecDepth 100000 in
theorem witness (os : Os) {H : Type} (enc : TypeId × Value → H) :
    (Rows.OpenSpec.upto Rows.fnNestedSpec).preRow enc Tryz.prog Tryz.f6 Rows.fnNestedUptoRow.domain false Rows.fnNestedUptoRow.laid ((World.laidAll Tryz.prog os Rows.fnNestedUptoRow.laid).forCall (fun _ _ => 0) ⟨#[], #[.slice none 0 0, .string ⟨#[]⟩, .slice none 0 0, .string ⟨#[]⟩], []⟩).memory #[.slice none 0 0, .string ⟨#[]⟩, .slice none 0 0, .string ⟨#[]⟩] := by
  have h : (DataW.whole enc Tryz.prog ((World.laidAll Tryz.prog os Rows.fnNestedUptoRow.laid).forCall (fun _ _ => 0) ⟨#[], #[.slice none 0 0, .string ⟨#[]⟩, .slice none 0 0, .string ⟨#[]⟩], []⟩).memory Tryz.f6.params.toList Rows.fnNestedSpec.vars false #[Value.slice none 0 0, Value.string ⟨#[]⟩, Value.slice none 0 0, Value.string ⟨#[]⟩].toList 8).isSome = true := by kernel_rfl
  obtain ⟨x, hx⟩ := Option.isSome_iff_exists.1 h
  exact OpenSpec.preRow_of_cond 8 hx rfl (fun k hk => by cases hk; exact small_nil hx) (sized os enc) (laid_met os _)

set_option maxRecDepth 100000 in
theorem lifted (os : Os) (started : os.Started) (H : Type) (enc : TypeId × Value → H) (F : Stop.Interp) :
    ReturnsInHanded {} Tryz.checked os 6 .any ((Rows.OpenSpec.upto Rows.fnNestedSpec).preRow enc Tryz.prog Tryz.f6 Rows.fnNestedUptoRow.domain false Rows.fnNestedUptoRow.laid) (((Rows.OpenSpec.upto Rows.fnNestedSpec).at F).post enc Tryz.prog Tryz.f6 false true false false) := by
  refine returnsInHanded_of_row (C := Tryz.checked) (s := Rows.OpenSpec.upto Rows.fnNestedSpec) own' started (by kernel_rfl) Tryz.func6
    (witness_row_atRef (enc := enc) (C := Tryz.checked) false (World.laidAll Tryz.prog os Rows.fnNestedUptoRow.laid) #[.slice none 0 0, .string ⟨#[]⟩, .slice none 0 0, .string ⟨#[]⟩] (World.laidAll_os _ _ _) (by kernel_rfl) (by kernel_rfl) (by kernel_rfl) (witness os enc)) ?_
  intro W base args ds gs before hval hW _ hcond _ hL _ _
  exact contract H enc W base args ds gs before hval hW hL (hcond _ rfl)

theorem band {a b : Bool} (h : a = true) (k : b = true) : (a && b) = true := by rw [h, k]; rfl
set_option maxRecDepth 100000 in
set_option maxHeartbeats 10000000 in
theorem facts : joinedFacts Tryz.prog 6 Tryz.f6 (Rows.OpenSpec.upto Rows.fnNestedSpec).bare Rows.fnNestedUptoRow = true := by
  unfold joinedFacts
  refine band (band (band (band (band (band (band (band (band (band (band (band (band (band (band (band (band (band (band (band (band (band (band (band (band (band (band (band (band (band (band ?_ ?_) ?_) ?_) ?_) ?_) ?_) ?_) ?_) ?_) ?_) ?_) ?_) ?_) ?_) ?_) ?_) ?_) ?_) ?_) ?_) ?_) ?_) ?_) ?_) ?_) ?_) ?_) ?_) ?_) ?_) ?_
  all_goals as_aux_lemma => kernel_rfl
theorem saidUpto : Rows.FnNestedUptoSaid :=
  OpenClaim.holds_of_cond 6 Tryz.f6 rfl rfl rfl rfl rfl rfl rfl ⟨rfl, rfl, rfl, rfl, rfl⟩ rfl rfl rfl rfl rfl (by kernel_rfl) Tryz.func6 facts
    (of_decide_eq_true (by kernel_rfl)) (by unfold Func.isWrapper; first | (rw [if_pos (by decide +kernel)]; kernel_rfl) | (rw [if_neg (by decide +kernel)]; exact ⟨rfl, rfl⟩))
    (fun os started H enc _ F => by rw [OpenClaim.pre_eq_preRow]; exact lifted os started H enc F)

theorem plain (f : FuncId) (fn : Func) (hf : Tryz.pinned.checked.prog.funcNamed "loop.example/pub-mailparts/laws.FnNested" = some f) (hfn : Tryz.pinned.checked.prog.funcs[f]? = some fn) :
    true = Tryz.pinned.checked.prog.looks [] ∧ ∀ (j : Nat) t, fn.params[j]? = some t → Tryz.pinned.checked.prog.wantsStandIn t = false := by
  obtain rfl : f = 6 := Option.some.inj ((show Tryz.prog.funcNamed "loop.example/pub-mailparts/laws.FnNested" = some 6 by kernel_rfl).symm.trans hf) |>.symm
  obtain rfl : fn = Tryz.f6 := (Option.some.inj (Tryz.func6.symm.trans hfn)).symm
  refine ⟨by kernel_rfl, fun j t ht => ?_⟩
  rw [Tryz.params6] at ht
  have hm : t ∈ #[26, 9, 37, 9] := Array.mem_of_getElem? ht
  simp only [List.mem_toArray, List.mem_cons, List.not_mem_nil, or_false] at hm
  rcases hm with rfl | rfl | rfl | rfl
  · exact (show Tryz.prog.wantsStandIn 26 = false by kernel_rfl)
  · exact (show Tryz.prog.wantsStandIn 9 = false by kernel_rfl)
  · exact (show Tryz.prog.wantsStandIn 37 = false by kernel_rfl)
  · exact (show Tryz.prog.wantsStandIn 9 = false by kernel_rfl)

theorem cardUpto : Rows.FnNestedUptoCardSaid :=
  Claim7.holds_tied_plain_at .later [] _ _ _ _ saidUpto (fun _ h => by cases h) (by kernel_rfl) (fun _ h => by cases h) fnNestedUpto_row_tie rfl ⟨rfl, rfl⟩ (by kernel_rfl) rfl plain (by kernel_rfl)
end FnNested
end Go.Proofs.YtfajmapajpfocaaGreatDoor
