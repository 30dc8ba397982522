/-
  The law FnNone: its row and its tied card.
  Conditions: none beyond the row's own.
-/
import Derived.Test.YtfajmapajpfocaaGreatDoorL17
import Derived.Test.YtfajmapajpfocaaGreatDoorCards
import Derived.Test.YtfajmapajpfocaaGreatDoorTie
import Derived.WalkKit
import Derived.ProofKit
import Derived.OpenShut
import Derived.OpenVars
import Derived.Lay
import Derived.SevenTiedAt
import Derived.Stop.Joined
import Derived.Stop.LaidErr
import Derived.Deep.DeepHandedRow
import Derived.Deep.DeepWitnessRowRef
import Derived.SizedLaws
set_option linter.all false
namespace Go.Proofs.YtfajmapajpfocaaGreatDoor
open Go Go.Cps Go.ChangeShapes Go.WideShapes Go.ChangeAt Go.RowKit

theorem own : ownKnob Tryz.prog.godebug = none := by kernel_rfl
theorem laidOut : laidOutB Tryz.prog = true := by kernel_rfl
theorem gEOF : Tryz.prog.globalNamed "io.EOF" = some 0 := by kernel_rfl
theorem gEOFType : (Tryz.prog.globals[0]?).map (·.type) = some 60 := by kernel_rfl
theorem cells140 : Tryz.prog.cellsOf 140 = 1 := by kernel_rfl
theorem cells9 : Tryz.prog.cellsOf 9 = 1 := by kernel_rfl
theorem star : "*" ++ "errors.errorString" = "*errors.errorString" := by decide
theorem row138 (u : TypeId) (h : Tryz.prog.typeName? 3 u = some "*errors.errorString") : u = 138 :=
  typeName_ptr_named (nm := "errors.errorString") (by rw [star]; kernel_rfl) (by kernel_rfl) (by decide) u (by rw [star]; exact h)
theorem eof_at {W : World} {r : List (String × DataW Unit)} (h : laidMet Tryz.prog (("io.EOF", Rows.laid_io_EOF) :: r) W) : ∃ e : Addr, EOFat W.heap (.iface 138 (.pointer (some e))) := by
  obtain ⟨ms, h60⟩ := und60
  obtain ⟨a, s, hv, _, _, _⟩ := laid_sentinel h gEOF gEOFType h60 row138 und138 Tryz.underlying140 rfl rfl und9 cells140 cells9
  refine ⟨a, ?_⟩
  unfold World.var? at hv
  rw [gEOF] at hv
  simp only [Option.bind_some] at hv
  cases hh : W.heap[0]? with
  | none => rw [hh] at hv; simp at hv
  | some o =>
    rw [hh] at hv
    cases o <;> simp at hv
    subst hv
    exact ⟨_, _, hh⟩

/-- from the heap to the world -/
theorem calls_of {f : FuncId} {args : Array Value} {W : World} (h : CallsH Tryz.prog f args W.heap fun x H' => x = .bool true ∧ Frm [] W.heap H') :
    Calls Tryz.prog f args W fun e W' => e = .returned (.bool true) ∧ Go.RowKit.Below W.heap.size W W' := by
  refine (h W rfl).mono ?_
  rintro e W' ⟨v, rfl, hs, rfl, hf⟩
  exact ⟨rfl, hs.os, hs.tape, hs.output, hf.size, fun k hk => hf.same k hk (by simp)⟩

theorem trodVars_pair {H : Type} {enc : TypeId × Value → H} {P : Program} {w : World} {sp : Nat → Bool} {a b : String} {gs : List (DataW H)} {ps : List MemPlace} (h : DataW.TrodVars enc P w sp [a, b] gs ps) : ∃ g1 g2, gs = [g1, g2] := by
  match gs, h with
  | [], h => exact h.elim
  | [_], h => obtain ⟨_, _, _, _, _, _, _, _, _, _, h, _⟩ := h; exact h.elim
  | [g1, g2], _ => exact ⟨g1, g2, rfl⟩
  | _ :: _ :: _ :: _, h => obtain ⟨_, _, _, _, _, _, _, _, _, _, h, _⟩ := h; obtain ⟨_, _, _, _, _, _, _, _, _, _, h, _⟩ := h; exact h.elim

namespace FnNone
theorem eof {W : World} (hL : laidMetH Tryz.prog Rows.fnNoneRow.laid W) : ∃ e : Addr, EOFat W.heap (.iface 138 (.pointer (some e))) := by
  rw [MakeChecks.laidMetH_plain _ _ _ (by kernel_rfl)] at hL
  exact eof_at hL.tail.tail.tail

theorem varsOk : varsRowed Tryz.prog Rows.fnNoneSpec.vars = true := by kernel_rfl

set_option maxRecDepth 100000 in
theorem contract (H : Type) (enc : TypeId × Value → H) (W : World) (base : Nat) (args : Array Value) (ds gs : List (DataW H)) (before : List MemPlace)
    (hval0 : ∀ (j : Nat) t v, Tryz.f3.params[j]? = some t → args[j]? = some v → Value.okWide Tryz.prog W .any base t v)
    (hW : DataW.Whole enc Tryz.prog Tryz.f3.params.toList Rows.fnNoneSpec.vars false W args.toList ds gs before) (hL : laidMetH Tryz.prog Rows.fnNoneRow.laid W)
    (hsz : (DataW.weightsEach Tryz.prog (Tryz.f3.params.toList ++ (OpenSpec.ofChange Rows.fnNoneSpec).bare.plain.varTypes Tryz.prog) (ds ++ gs)).all (· ≤ reachBytes) = true) :
    Calls Tryz.prog 3 args W fun e W' => ∃ v, e = .returned v ∧ Rows.fnNoneSpec.post enc Tryz.prog Tryz.f3 false true false false W args v W' := by
  have hval := hval0
  have hW' := hW
  obtain ⟨p, q, hA0, hV, rfl, _, _⟩ := hW
  have hA : DataW.TrodAll enc Tryz.prog W 0 (fun _ => true) true Tryz.f3.params.toList args.toList ds p := hA0
  rw [Tryz.params3] at hA hval
  obtain ⟨v0, d0, rfl, rfl, h0⟩ := trodAll_one hA
  obtain ⟨s, rfl, rfl, rfl, ws⟩ := Go.ChangeMaps.open_string und9 (hval 0 9 v0 rfl rfl) h0
  obtain ⟨e, hE⟩ := eof hL
  have hs : (Value.string s) = Cps.strVal s.data.toList := by cases s; simp [Cps.strVal]
  rw [hs]
  refine (calls_of (fnNone_ok hE)).mono fun e W' ⟨he, hb⟩ => ?_
  subst he
  rw [hs] at hW'
  have hV' := hb.trodVars laidOut varsOk hV
  obtain ⟨g1, g2, rfl⟩ := trodVars_pair hV
  refine ⟨_, rfl, _, _, _, [], [], q, hW', ?_, ?_, ?_, hb.frame _, fun h => by cases h⟩
  · show DataW.TrodAll enc Tryz.prog W' _ _ _ [4] [.bool true] [.lit (.bool true)] []
    exact trodAll_mk1 (shut_bool Tryz.underlying4 _)
  · show DataW.TrodAll enc Tryz.prog W' _ _ _ Tryz.f3.params.toList [_] [.lit (.string s.data.toList)] []
    rw [Tryz.params3]
    exact trodAll_mk1 (hs ▸ Go.ChangeMaps.shut_string und9 ws)
  · exact hV'

theorem laid_met (os : Os) (args : Array Value) : laidMetH Tryz.prog Rows.fnNoneRow.laid ((World.laidAll Tryz.prog os Rows.fnNoneRow.laid).forCall (fun _ _ => 0) ⟨#[], args, []⟩).memory := by
  rw [MakeChecks.laidMetH_plain _ _ _ (by kernel_rfl)]
  exact laidMet_laidAll _ (by kernel_rfl) (by kernel_rfl)

set_option maxRecDepth 100000 in
theorem witness (os : Os) {H : Type} (enc : TypeId × Value → H) :
    (OpenSpec.ofChange Rows.fnNoneSpec).preRow enc Tryz.prog Tryz.f3 Rows.fnNoneRow.domain false Rows.fnNoneRow.laid ((World.laidAll Tryz.prog os Rows.fnNoneRow.laid).forCall (fun _ _ => 0) ⟨#[], #[.string ⟨#[]⟩], []⟩).memory #[.string ⟨#[]⟩] := by
  have h : (DataW.whole enc Tryz.prog ((World.laidAll Tryz.prog os Rows.fnNoneRow.laid).forCall (fun _ _ => 0) ⟨#[], #[.string ⟨#[]⟩], []⟩).memory Tryz.f3.params.toList Rows.fnNoneSpec.vars false #[Value.string ⟨#[]⟩].toList 8).isSome = true := by kernel_rfl
  obtain ⟨x, hx⟩ := Option.isSome_iff_exists.1 h
  exact OpenSpec.preRow_of_cond 8 hx rfl (fun k hk => by cases hk) (by kernel_rfl) (laid_met os _)

set_option maxRecDepth 100000 in
theorem lifted (os : Os) (started : os.Started) (H : Type) (enc : TypeId × Value → H) (F : Stop.Interp) :
    ReturnsInHanded {} Tryz.checked os 3 .any ((OpenSpec.ofChange Rows.fnNoneSpec).preRow enc Tryz.prog Tryz.f3 Rows.fnNoneRow.domain false Rows.fnNoneRow.laid) (((OpenSpec.ofChange Rows.fnNoneSpec).at F).post enc Tryz.prog Tryz.f3 false true false false) := by
  refine returnsInHanded_of_row (C := Tryz.checked) (s := OpenSpec.ofChange Rows.fnNoneSpec) own started (by kernel_rfl) Tryz.func3
    (witness_row_atRef (enc := enc) (C := Tryz.checked) false (World.laidAll Tryz.prog os Rows.fnNoneRow.laid) #[.string ⟨#[]⟩] (World.laidAll_os _ _ _) (by kernel_rfl) (by kernel_rfl) (by kernel_rfl) (witness os enc)) ?_
  intro W base args ds gs before hval hW _ _ hsz hL _ _
  exact contract H enc W base args ds gs before hval hW hL hsz

theorem band {a b : Bool} (h : a = true) (k : b = true) : (a && b) = true := by rw [h, k]; rfl
set_option maxRecDepth 100000 in
set_option maxHeartbeats 10000000 in
theorem facts : joinedFacts Tryz.prog 3 Tryz.f3 (OpenSpec.ofChange Rows.fnNoneSpec).bare Rows.fnNoneRow = true := by
  unfold joinedFacts
  refine band (band (band (band (band (band (band (band (band (band (band (band (band (band (band (band (band (band (band (band (band (band (band (band (band (band (band (band (band (band (band ?_ ?_) ?_) ?_) ?_) ?_) ?_) ?_) ?_) ?_) ?_) ?_) ?_) ?_) ?_) ?_) ?_) ?_) ?_) ?_) ?_) ?_) ?_) ?_) ?_) ?_) ?_) ?_) ?_) ?_) ?_) ?_
  all_goals as_aux_lemma => kernel_rfl
theorem said : Rows.FnNoneSaid :=
  OpenClaim.holds_of_cond 3 Tryz.f3 rfl rfl rfl rfl rfl rfl rfl ⟨rfl, rfl, rfl, rfl, rfl⟩ rfl rfl rfl rfl rfl (by kernel_rfl) Tryz.func3 facts
    (of_decide_eq_true (by kernel_rfl)) (by unfold Func.isWrapper; first | (rw [if_pos (by decide +kernel)]; kernel_rfl) | (rw [if_neg (by decide +kernel)]; exact ⟨rfl, rfl⟩))
    (fun os started H enc _ F => by rw [OpenClaim.pre_eq_preRow]; exact lifted os started H enc F)

theorem plain (f : FuncId) (fn : Func) (hf : Tryz.pinned.checked.prog.funcNamed "loop.example/pub-mailparts/laws.FnNone" = some f) (hfn : Tryz.pinned.checked.prog.funcs[f]? = some fn) :
    true = Tryz.pinned.checked.prog.looks [] ∧ ∀ (j : Nat) t, fn.params[j]? = some t → Tryz.pinned.checked.prog.wantsStandIn t = false := by
  obtain rfl : f = 3 := Option.some.inj ((show Tryz.prog.funcNamed "loop.example/pub-mailparts/laws.FnNone" = some 3 by kernel_rfl).symm.trans hf) |>.symm
  obtain rfl : fn = Tryz.f3 := (Option.some.inj (Tryz.func3.symm.trans hfn)).symm
  refine ⟨by kernel_rfl, fun j t ht => ?_⟩
  rw [Tryz.params3] at ht
  obtain rfl : t = 9 := by simpa using Array.mem_of_getElem? ht
  exact (show Tryz.prog.wantsStandIn 9 = false by kernel_rfl)

theorem card : Rows.FnNoneCardSaid :=
  Claim7.holds_tied_plain_at .later [] _ _ _ _ said (fun _ h => by cases h) (by kernel_rfl) (fun _ h => by cases h) fnNone_row_tie rfl ⟨rfl, rfl⟩ (by kernel_rfl) rfl plain (by kernel_rfl)
end FnNone
end Go.Proofs.YtfajmapajpfocaaGreatDoor
