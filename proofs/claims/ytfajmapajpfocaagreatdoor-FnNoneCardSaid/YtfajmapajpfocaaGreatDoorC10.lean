/-
  From the proposition of a body to the contract of a call.
  Conditions: none.
-/
import Derived.Test.YtfajmapajpfocaaGreatDoorC9
set_option linter.all false
namespace Go.Cps
open Go
section
variable {P : Program} {n : Nat}

theorem look_argEnv : ∀ (vs : List Value) (i t : Nat) (v : Value), look (argEnv i vs) t = some v → i ≤ t ∧ vs[t - i]? = some v
  | [], i, t, v, h => by simp [argEnv, look] at h
  | u :: r, i, t, v, h => by
    simp only [argEnv, look_cons] at h
    split at h
    · rename_i e; subst e; cases h; simp
    · rename_i e
      obtain ⟨h1, h2⟩ := look_argEnv r (i + 1) t v h
      refine ⟨by omega, ?_⟩
      have : t - i = (t - (i + 1)) + 1 := by omega
      rw [this, List.getElem?_cons_succ]
      exact h2

theorem Rep.start {args : List Value} {m : Nat} (h : args.length ≤ m) : Rep m (argEnv 0 args) { tmps := args.toArray ++ Array.replicate (m - args.toArray.size) undef, defers := [] } := by
  refine ⟨by simp; omega, rfl, fun t v hv => ?_⟩
  obtain ⟨_, h2⟩ := look_argEnv args 0 t v hv
  simp only [Nat.sub_zero] at h2
  have hlt : t < args.length := (List.getElem?_eq_some_iff.1 h2).1
  rw [Array.getElem?_append_left (by simpa using hlt)]
  simpa using h2

def resOne (tmps : Array Value) : ResultVar → Sem Value
  | .tmp t => pure (tmps.getD t undef)
  | .cell a t => do loadVar t (← asAddr (tmps.getD a undef))

theorem resVals_sound {ρ : Env} {a : Act} (hr : Rep n ρ a) (w : World) : ∀ (rs : List ResultVar) (K : List Value → Prop), resVals P ρ w.heap rs K →
    ∃ vs, (rs.mapM (resOne a.tmps)).run P w = .ok vs w ∧ K vs
  | [], K, h => ⟨[], rfl, h⟩
  | .tmp t :: r, K, h => by
    simp only [resVals] at h
    cases hk : (look ρ t).isSome with
    | false => rw [hk] at h; exact h.elim
    | true =>
      rw [hk, cond_true] at h
      obtain ⟨vs, h1, h2⟩ := resVals_sound hr w r _ h
      obtain ⟨v, hv⟩ := Option.isSome_iff_exists.1 hk
      have e1 : a.tmps.getD t undef = lookD ρ t := by simp [lookD, hv, hr.at_ t v hv]
      exact ⟨_, by simp [List.mapM_cons, resOne, e1, h1], h2⟩
  | .cell b t :: r, K, h => by
    simp only [resVals] at h
    cases hk : (look ρ b).isSome with
    | false => rw [hk] at h; exact h.elim
    | true =>
      rw [hk, cond_true] at h
      obtain ⟨v, hv⟩ := Option.isSome_iff_exists.1 hk
      have e1 : a.tmps.getD b undef = lookD ρ b := by simp [lookD, hv, hr.at_ b v hv]
      have key : ∀ u, (Instr.loadAt t (lookD ρ b)).run P w = .ok u w → resVals P ρ w.heap r (fun vs => K (u :: vs)) → ∃ vs, ((ResultVar.cell b t :: r).mapM (resOne a.tmps)).run P w = .ok vs w ∧ K vs := by
        intro u hu hK
        obtain ⟨vs, h1, h2⟩ := resVals_sound hr w r _ hK
        refine ⟨u :: vs, ?_, h2⟩
        have hl : (do loadVar t (← asAddr (lookD ρ b)) : Sem Value).run P w = .ok u w := by
          cases hx : lookD ρ b with
          | pointer p =>
            cases p with
            | some p => simpa [hx, Instr.loadAt, Instr.sureAddr, asAddr] using hu
            | none => simp [hx, Instr.loadAt, Instr.sureAddr] at hu
          | _ => simp [hx, Instr.loadAt, Instr.sureAddr] at hu
        simp only [List.mapM_cons, resOne, e1, Sem.run_bind] at hl ⊢
        simp only [hl, Result.andThen_ok, h1, Sem.run_pure]
      split at h
      · rename_i m ha
        obtain ⟨u, h1, h2⟩ := h
        exact key u (loadN_sound ha h1 w rfl) h2
      · rename_i m ha
        obtain ⟨u, h1, h2⟩ := h
        exact key u (load1_sound ha h1 w rfl) h2
      · exact h.elim

theorem results_run {fn : Func} {tmps : Array Value} {vs : List Value} {w : World} (h : (fn.results.toList.mapM (resOne tmps)).run P w = .ok vs w) : (results fn tmps).run P w = .ok (one vs) w := by
  have e1 : results fn tmps = (do let vs ← fn.results.mapM (resOne tmps); pure (if h : vs.size = 1 then vs[0] else .tuple vs)) := by
    unfold results
    congr 1
  have h' : (fn.results.mapM (resOne tmps)).run P w = .ok vs.toArray w := by
    rw [Array.mapM_eq_mapM_toList]
    simp only [Sem.run_map, h]
    rfl
  rw [e1]
  simp only [Sem.run_bind, h', Result.andThen_ok, Sem.run_pure]
  congr 1
  match vs with
  | [] => simp [one]
  | [v] => simp [one]
  | u :: v :: r => simp [one]

theorem callsH_of_den {f : FuncId} {fn : Func} {c : Code} {p : Plan} {args : List Value} {H : Heap} {R : Value → Heap → Prop} (hf : P.funcs[f]? = some fn) (hb : fn.body = some c)
    (hm : P.follows .mixedOrders = true) (hsel : noSelC c = true) (hn : Nat.ble args.length fn.ntmps = true) (h : den P fn.ntmps p c (retQ P fn.results.toList R) (argEnv 0 args) H) :
    CallsH P f args.toArray H R := by
  intro w hw
  refine calls_of_wp hf hb (wp_mono (den_sound hm p c _ (argEnv 0 args) _ w w hsel (by rw [hw]; exact h) (Rep.start (by simpa using Nat.le_of_ble_eq_true hn)) (.refl w)) ?_)
  intro e a' w' ⟨hs, ρ', h1, _, h3⟩
  have key : resVals P ρ' w'.heap fn.results.toList (fun vs => R (one vs) w'.heap) → a'.defers = [] ∧ ∃ v, (results fn a'.tmps).run P w' = .ok v w' ∧ ∃ u, Ending.returned v = .returned u ∧ Same w w' ∧ R u w'.heap := fun h => by
    obtain ⟨vs, h2, h3⟩ := resVals_sound h1 w' _ _ h
    exact ⟨h1.defers, one vs, results_run h2, one vs, rfl, hs, h3⟩
  cases e <;> simp only [retQ] at h3 <;> simp only [bodyPost]
  case normal => exact key h3
  case ret => exact key h3

/-- the same, with the body's proposition under a name -/
theorem callsH_of_eq {f : FuncId} {fn : Func} {c : Code} (p : Plan) {args : List Value} {H : Heap} {R : Value → Heap → Prop} {B : Prop} (hf : P.funcs[f]? = some fn) (hb : fn.body = some c)
    (hm : P.follows .mixedOrders = true) (hsel : noSelC c = true) (hn : Nat.ble args.length fn.ntmps = true) (he : den P fn.ntmps p c (retQ P fn.results.toList R) (argEnv 0 args) H = B) (h : B) :
    CallsH P f args.toArray H R := callsH_of_den hf hb hm hsel hn (he ▸ h)
end
end Go.Cps
