/-
  A part of the proof: The proposition that a body comes to implies the walk of the model. From the proposition of a body to the contract of a call. Small words of the printed bodies.
  Conditions: each contract's own.
-/
import Derived.Deep.LoopGhost
import Derived.Scope
import Derived.Test.YteajpfckbnfdaaaGreatDoorProg
import Derived.Test.YteajpfckbnfdaaaGreatDoorH3
set_option linter.all false
namespace Go.Cps
open Go
section
variable {P : Program} {n : Nat} {ops : Array Oper}
structure Rep (n : Nat) (ρ : Env) (a : Act) : Prop where
  size : a.tmps.size = n
  defers : a.defers = []
  at_ : ∀ t v, look ρ t = some v → a.tmps[t]? = some v
def Ext (W : List Nat) (ρ ρ' : Env) : Prop := ∀ t, t ∉ W → look ρ' t = look ρ t
theorem Ext.refl (W : List Nat) (ρ : Env) : Ext W ρ ρ := fun _ _ => rfl
theorem Ext.trans {W : List Nat} {a b c : Env} (h : Ext W a b) (k : Ext W b c) : Ext W a c := fun t ht => (k t ht).trans (h t ht)
theorem Ext.mono {W W' : List Nat} {a b : Env} (h : Ext W a b) (hW : ∀ t ∈ W, t ∈ W') : Ext W' a b := fun t ht => h t (fun h' => ht (hW t h'))
theorem look_cons (k : Nat) (v : Value) (ρ : Env) (t : Nat) : look ((k, v) :: ρ) t = if k = t then some v else look ρ t := by
  simp only [look]
  by_cases h : k = t
  · subst h; simp
  · rw [if_neg h]
    have : Nat.beq k t = false := by
      cases hb : Nat.beq k t
      · rfl
      · exact absurd (Nat.eq_of_beq_eq_true hb) h
    rw [this]; rfl
theorem Rep.eval {ρ : Env} {a : Act} (h : Rep n ρ a) {x : Operand} (hk : known ρ x = true) : a.eval x = evE ρ x := by
  cases x with
  | tmp t =>
    obtain ⟨v, hv⟩ := Option.isSome_iff_exists.1 hk
    simp [Act.eval, evE, lookD, hv, h.at_ t v hv]
  | _ => rfl
theorem Rep.put {ρ : Env} {a : Act} (h : Rep n ρ a) {d : Nat} (hd : d < n) (v : Value) : Rep n ((d, v) :: ρ) (a.put (some d) v) := by
  refine ⟨by simp [Act.put, h.size], by simp [Act.put, h.defers], fun t u hu => ?_⟩
  rw [look_cons] at hu
  simp only [Act.put]
  split at hu
  · rename_i e; subst e; cases hu
    have hd' : d < a.tmps.size := by rw [h.size]; exact hd
    simp [hd']
  · rename_i e
    rw [Array.getElem?_setIfInBounds_ne e]
    exact h.at_ t u hu
theorem after_sound {i : Nat} {o : Oper} {M : Env → Heap → Prop} {ρ : Env} {v : Value} {H : Heap} {a : Act} (ho : o ∈ ops) (h : after n ops i o M ρ v H) (hr : Rep n ρ a) :
    ∃ ρ', Rep n ρ' (a.put o.dst v) ∧ Ext (opsDst ops) ρ ρ' ∧ M ρ' H := by
  unfold after at h
  cases hd : o.dst with
  | none => simp only [hd] at h; exact ⟨ρ, hr, .refl _ _, h⟩
  | some d =>
    simp only [hd] at h
    cases hb : Nat.blt d n with
    | false => rw [hb] at h; exact h.elim
    | true =>
      rw [hb, cond_true] at h
      have hlt : d < n := by simpa [Nat.blt_eq] using hb
      have hmem : d ∈ opsDst ops := List.mem_filterMap.2 ⟨o, by simpa using ho, hd⟩
      have hext : ∀ u, Ext (opsDst ops) ρ ((d, u) :: ρ) := fun u t ht => by
        rw [look_cons, if_neg (fun e : d = t => ht (e ▸ hmem))]
      cases hs : isSrc ops i with
      | false => rw [hs] at h; exact ⟨_, hr.put hlt v, hext v, h⟩
      | true =>
        rw [hs] at h
        obtain ⟨b, rfl, h1, h2⟩ := h
        cases b
        · exact ⟨_, hr.put hlt _, hext _, h2 rfl⟩
        · exact ⟨_, hr.put hlt _, hext _, h1 rfl⟩
theorem recheck_sound {chk : Nat → List Nat} {i : Nat} {H : Heap} : ∀ {D : Mem}, recheckE (chk i) H D → recheck chk D i H
  | [], _ => fun x hx => by cases hx
  | y :: r, h => fun x hx hc => by
    simp only [recheckE] at h
    cases hb : (chk i).contains y.1 with
    | true =>
      rw [hb] at h
      rcases List.mem_cons.1 hx with rfl | hx
      · exact h.1
      · exact recheck_sound h.2 x hx hc
    | false =>
      rw [hb] at h
      rcases List.mem_cons.1 hx with rfl | hx
      · simp at hb; exact absurd hc hb
      · exact recheck_sound h x hx hc
def lifted (n : Nat) (W : List Nat) (ρ₀ : Env) (M : Mem → Env → Heap → Prop) : Mem → Act → Heap → Prop := fun D a H => ∃ ρ', Rep n ρ' a ∧ Ext W ρ₀ ρ' ∧ M D ρ' H
theorem effP_congr {ρ : Env} {a : Act} {o : Oper} (hns : ∀ cs b, o.op ≠ .select cs b) (hop : ∀ x ∈ o.op.operands, a.eval x = evE ρ x) : execOp a.eval o = execOp (evE ρ) o := execOp_congr o hns hop
theorem dRunOp_sound {chk : Nat → List Nat} {i : Nat} {o : Oper} {D : Mem} {M : Mem → Env → Heap → Prop} {ρ : Env} {H : Heap} {a : Act} (ho : o ∈ ops) (hns : ∀ cs b, o.op ≠ .select cs b)
    (hw : Region.wanted o (yielded ops a.tmps) = true) (h : dRunOp P n ops chk i o D M ρ H) (hr : Rep n ρ a) : hOp P ops chk i o D (lifted n (opsDst ops) ρ M) a H := by
  unfold dRunOp at h
  cases hk : o.op.operands.toList.all (known ρ) with
  | false => rw [hk] at h; exact h.elim
  | true =>
    rw [hk, cond_true] at h
    have hop : ∀ x ∈ o.op.operands, a.eval x = evE ρ x := fun x hx => hr.eval (List.all_eq_true.1 hk x (by simpa using hx))
    have hp : pureV P a.eval o = pureV P (evE ρ) o := pureV_congr o hop
    have hrd : ∀ H, readV P a.eval H o = readV P (evE ρ) H o := readV_congr o hop
    unfold hOp hVal
    rw [if_pos hw]
    cases kd : kindOf P o <;> simp only [kd] at h ⊢
    case pure =>
      have key : ∀ v, pureV P (evE ρ) o = some v → after n ops i o (M D) ρ v H → ∃ v, pureV P a.eval o = some v ∧ lifted n (opsDst ops) ρ M D (a.put o.dst v) H := fun v h1 h2 =>
        ⟨v, by rw [hp]; exact h1, after_sound ho h2 hr⟩
      split at h
      · rename_i x hx; exact key _ (by simp only [pureV, hx]) h
      · rename_i x hx; exact key _ (by simp only [pureV, hx]) h
      · rename_i fn x y hx; exact key _ (by simp only [pureV, hx]) h
      · obtain ⟨v, h1, h2⟩ := h; exact key v h1 h2
    case read =>
      obtain ⟨v, h1, h2⟩ := h
      refine ⟨v, by rw [hrd]; exact h1, ?_⟩
      have : (fun H' => readV P a.eval H' o) = fun H' => readV P (evE ρ) H' o := funext hrd
      rw [this]
      exact after_sound ho h2 hr
    case eff =>
      rw [effP_congr hns hop]
      refine (effP_sound (fun _ => rfl) h).mono fun v H' hM => ?_
      split at hM
      · rename_i hc
        refine ⟨fun x _ hxc => ?_, after_sound ho hM hr⟩
        rw [hc] at hxc
        cases hxc
      · exact ⟨recheck_sound hM.1, after_sound ho hM.2 hr⟩
theorem dOp_sound {chk : Nat → List Nat} {i : Nat} {o : Oper} {D : Mem} {M : Mem → Env → Heap → Prop} {ρ : Env} {H : Heap} {a : Act} (ho : o ∈ ops) (hns : ∀ cs b, o.op ≠ .select cs b)
    (h : dOp P n ops chk i o D M ρ H) (hr : Rep n ρ a) : hOp P ops chk i o D (lifted n (opsDst ops) ρ M) a H := by
  unfold dOp at h
  cases hg : o.guard with
  | none => simp only [hg] at h; exact dRunOp_sound ho hns (by simp [Region.wanted, hg]) h hr
  | some g =>
    obtain ⟨j, want⟩ := g
    simp only [hg] at h
    cases hd : (ops[j]?).bind (·.dst) with
    | none => simp only [hd] at h
    | some d =>
      simp only [hd] at h
      have hskip : Region.wanted o (yielded ops a.tmps) = false → (match o.dst with | some e => bif Nat.blt e n then M D ((e, undef) :: ρ) H else False | none => M D ρ H) →
          hOp P ops chk i o D (lifted n (opsDst ops) ρ M) a H := fun hw hM => by
        unfold hOp
        rw [hVal_skip (by simp [hw])]
        cases hdst : o.dst with
        | none => simp only [hdst] at hM; exact ⟨ρ, hr, .refl _ _, hM⟩
        | some e =>
          simp only [hdst] at hM
          cases hb : Nat.blt e n with
          | false => rw [hb] at hM; exact hM.elim
          | true =>
            rw [hb, cond_true] at hM
            have hlt : e < n := by simpa [Nat.blt_eq] using hb
            have hmem : e ∈ opsDst ops := List.mem_filterMap.2 ⟨o, by simpa using ho, hdst⟩
            exact ⟨_, hr.put hlt undef, fun t ht => by rw [look_cons, if_neg (fun e' : e = t => ht (e' ▸ hmem))], hM⟩
      have hy : ∀ v, look ρ d = some v → yielded ops a.tmps j = (match v with | .bool b => some b | _ => none) := fun v hv => by
        unfold yielded
        rw [hd]
        simp only [Option.bind_some, hr.at_ d v hv]
        cases v <;> rfl
      split at h
      · rename_i hl; exact dRunOp_sound ho hns (by simp [Region.wanted, hg, hy _ hl]) h hr
      · rename_i hl; exact dRunOp_sound ho hns (by simp [Region.wanted, hg, hy _ hl]) h hr
      · rename_i hl; exact hskip (by simp [Region.wanted, hg, hy _ hl]) h
      · rename_i hl; exact hskip (by simp [Region.wanted, hg, hy _ hl]) h
      · rename_i hl; exact hskip (by simp [Region.wanted, hg, hy _ hl]) h
      · exact h.elim
theorem dRun_sound {chk : Nat → List Nat} {K : Env → Heap → Prop} (hns : ∀ (j : Nat) (o : Oper) cs b, ops[j]? = some o → o.op ≠ .select cs b) : ∀ (L : List Nat) (D : Mem) (ρ : Env) (a : Act) (H : Heap), dRun P n ops chk K L D ρ H → Rep n ρ a →
    hRun P ops chk (fun a' H' => ∃ ρ', Rep n ρ' a' ∧ Ext (opsDst ops) ρ ρ' ∧ K ρ' H') L D a H
  | [], _, ρ, a, H, h, hr => ⟨ρ, hr, .refl _ _, h⟩
  | i :: r, D, ρ, a, H, h, hr => by
    simp only [dRun] at h
    split at h
    · rename_i o ho
      refine ⟨o, ho, hOp_mono (fun _ h => h) (fun E E' a' H' hE hM => ?_) (dOp_sound (Array.mem_of_getElem? ho) (fun cs b => hns i o cs b ho) h hr)⟩
      obtain ⟨ρ', h1, h2, h3⟩ := hM
      refine hRun_mono (fun a'' H'' ⟨ρ'', k1, k2, k3⟩ => ⟨ρ'', k1, h2.trans k2, k3⟩) r E E' a' H' hE (dRun_sound hns r E ρ' a' H' h3 h1)
    · exact h.elim
def liftQ (n : Nat) (W : List Nat) (ρ₀ : Env) (w₀ : World) (Q : Exit → Env → Heap → Prop) : Exit → Act → World → Prop :=
  fun e a w => Same w₀ w ∧ ∃ ρ', Rep n ρ' a ∧ Ext W ρ₀ ρ' ∧ Q e ρ' w.heap
theorem noSelect_plain (hB : Region.noSelect ops = true) : ∀ (j : Nat) (o : Oper) cs b, ops[j]? = some o → o.op ≠ .select cs b := fun j o cs b h => Region.noSelect_spec hB j o cs b h
theorem look_dropE (W : List Nat) : ∀ (ρ : Env) (t : Nat), look (dropE W ρ) t = if t ∈ W then none else look ρ t
  | [], t => by simp [dropE, look]
  | (k, v) :: r, t => by
    have ih := look_dropE W r t
    unfold dropE at ih ⊢
    rw [List.filter_cons]
    by_cases hk : k ∈ W
    · simp only [hk, List.contains_eq_mem, decide_true, Bool.not_true, Bool.false_eq_true, if_false]
      rw [show (List.filter (fun x : Nat × Value => !decide (x.fst ∈ W)) r) = List.filter (fun x => !W.contains x.1) r from by simp]
      rw [ih, look_cons]
      by_cases ht : t ∈ W
      · rw [if_pos ht, if_pos ht]
      · rw [if_neg ht, if_neg ht, if_neg (fun e : k = t => ht (e ▸ hk))]
    · simp only [hk, List.contains_eq_mem, decide_false, Bool.not_false, if_true]
      rw [show (List.filter (fun x : Nat × Value => !decide (x.fst ∈ W)) r) = List.filter (fun x => !W.contains x.1) r from by simp]
      rw [look_cons, look_cons, ih]
      by_cases e : k = t
      · subst e; rw [if_pos rfl, if_neg hk, if_pos rfl]
      · rw [if_neg e, if_neg e]
theorem look_append : ∀ (a b : Env) (t : Nat), look (a ++ b) t = (look a t).or (look b t)
  | [], b, t => by simp [look]
  | (k, v) :: r, b, t => by
    rw [List.cons_append, look_cons, look_cons, look_append r b t]
    split <;> simp
theorem look_zipS (f : Nat → Value) : ∀ (sl : List Nat) (pre : List Value) (t : Nat), look (zipS sl pre.length (pre ++ sl.map f)) t = if t ∈ sl then some (f t) else none
  | [], pre, t => by simp [zipS, look]
  | s :: r, pre, t => by
    have ih := look_zipS f r (pre ++ [f s]) t
    simp only [zipS, look_cons]
    have e1 : pre ++ List.map f (s :: r) = (pre ++ [f s]) ++ r.map f := by simp
    have e2 : pre.length + 1 = (pre ++ [f s]).length := by simp
    rw [e1, e2, ih]
    have e3 : nth ((pre ++ [f s]) ++ r.map f) pre.length = f s := by simp [nth]
    rw [e3]
    by_cases e : s = t
    · subst e; simp
    · rw [if_neg e]
      have e' : ¬ t = s := fun h => e h.symm
      simp [e']
theorem Rep.slots {ρ ρ' : Env} {a : Act} {sl W : List Nat} (hr : Rep n ρ' a) (hext : Ext W ρ ρ') (hk : sl.all (fun s => (look ρ' s).isSome) = true) : Rep n (zipS sl 0 (sl.map (lookD ρ')) ++ dropE W ρ) a := by
  refine ⟨hr.size, hr.defers, fun t v hv => ?_⟩
  rw [look_append, show (0 : Nat) = ([] : List Value).length from rfl, show sl.map (lookD ρ') = [] ++ sl.map (lookD ρ') from rfl, look_zipS, look_dropE] at hv
  by_cases ht : t ∈ sl
  · simp only [ht, if_true, Option.some_or, Option.some.injEq] at hv
    obtain ⟨u, hu⟩ := Option.isSome_iff_exists.1 (List.all_eq_true.1 hk t ht)
    have : lookD ρ' t = u := by simp [lookD, hu]
    rw [← hv, this]
    exact hr.at_ t u hu
  · simp only [ht, if_false, Option.none_or] at hv
    by_cases hW : t ∈ W
    · simp [hW] at hv
    · simp only [hW, if_false] at hv
      exact hr.at_ t v (by rw [hext t hW]; exact hv)
theorem ext_slots {ρ : Env} {sl W : List Nat} {vs : List Value} (hsub : sl.all W.contains = true) : Ext W ρ (zipS sl 0 vs ++ dropE W ρ) := fun t ht => by
  rw [look_append, look_dropE, if_neg ht]
  have : ∀ (sl : List Nat) (i : Nat), t ∉ sl → look (zipS sl i vs) t = none := fun sl => by
    induction sl with
    | nil => intro i _; rfl
    | cons s r ih =>
      intro i h
      simp only [List.mem_cons, not_or] at h
      simp only [zipS, look_cons]
      rw [if_neg (fun e => h.1 e.symm), ih _ h.2]
  rw [this sl 0 (fun h => ht (by have := List.all_eq_true.1 hsub t h; simpa using this))]
  simp
theorem region_sound {id : Nat} {draw : Bool} {L : List Nat} {Q : Exit → Env → Heap → Prop} {ρ : Env} {a : Act} {w₀ w : World} (hm : P.follows .mixedOrders = true) (hsel : Region.noSelect ops = true)
    (h : dRegion P n ops draw L (Q .normal) ρ w.heap) (hr : Rep n ρ a) (hs : Same w₀ w) : (Code.region id ops draw).wp P (liftQ n (opsDst ops) ρ w₀ Q) a w := by
  unfold dRegion at h
  have hns := noSelect_plain hsel
  cases draw with
  | true =>
    rw [cond_true] at h
    cases hB : orderB P ops (chkOf P ops) L with
    | false => rw [hB] at h; exact h.elim
    | true =>
      rw [hB, cond_true] at h
      exact region_draw hm hB hs (fun a' w' hs' hK => ⟨hs', hK⟩) (dRun_sound hns L [] ρ a w.heap h hr)
  | false =>
    rw [cond_false] at h
    exact region_plain hs (fun a' w' hs' hK => ⟨hs', hK⟩) (dRun_sound hns _ [] ρ a w.heap h hr)
def noSelC : Code → Bool
  | .region _ ops _ => Region.noSelect ops
  | .seq a b => noSelC a && noSelC b
  | .cond _ a b => noSelC a && noSelC b
  | .block _ a => noSelC a
  | .loop a => noSelC a
  | .scope a => noSelC a
  | _ => true
theorem liftQ_mono {W W' : List Nat} {ρ : Env} {w₀ : World} {Q Q' : Exit → Env → Heap → Prop} (hW : ∀ t ∈ W, t ∈ W') (hQ : ∀ e ρ H, Q e ρ H → Q' e ρ H) (e : Exit) (a : Act) (w : World)
    (h : liftQ n W ρ w₀ Q e a w) : liftQ n W' ρ w₀ Q' e a w :=
  let ⟨hs, ρ', h1, h2, h3⟩ := h
  ⟨hs, ρ', h1, h2.mono hW, hQ _ _ _ h3⟩
theorem den_sound (hm : P.follows .mixedOrders = true) : ∀ (p : Plan) (c : Code) (Q : Exit → Env → Heap → Prop) (ρ : Env) (a : Act) (w₀ w : World), noSelC c = true → den P n p c Q ρ w.heap → Rep n ρ a → Same w₀ w →
    c.wp P (liftQ n (written c) ρ w₀ Q) a w := by
  intro p
  induction p with
  | leaf L =>
    intro c Q ρ a w₀ w hsel h hr hs
    simp only [den] at h
    cases c <;> simp only [] at h
    case skip => exact wp_skip ⟨hs, ρ, hr, .refl _ _, h⟩
    case region id ops d => exact region_sound hm hsel h hr hs
    case exit id => exact wp_exit ⟨hs, ρ, hr, .refl _ _, h⟩
    case ret => exact wp_ret ⟨hs, ρ, hr, .refl _ _, h⟩
  | seq pa pb iha ihb =>
    intro c Q ρ a w₀ w hsel h hr hs
    cases c <;> simp only [den] at h
    case seq x y =>
      simp only [noSelC, Bool.and_eq_true] at hsel
      refine wp_seq (wp_mono (iha x _ ρ a w₀ w hsel.1 h hr hs) ?_)
      intro e a' w' ⟨hs', ρ', h1, h2, h3⟩
      have hx : ∀ t ∈ written x, t ∈ written (.seq x y) := fun t ht => List.mem_append_left _ ht
      cases e <;> simp only [Exit.then] at h3 ⊢
      case normal =>
        refine wp_mono (ihb y Q ρ' a' w₀ w' hsel.2 h3 h1 hs') ?_
        intro e a'' w'' ⟨hs'', ρ'', k1, k2, k3⟩
        exact ⟨hs'', ρ'', k1, (h2.mono hx).trans (k2.mono fun t ht => List.mem_append_right _ ht), k3⟩
      case exit id => exact ⟨hs', ρ', h1, h2.mono hx, h3⟩
      case ret => exact ⟨hs', ρ', h1, h2.mono hx, h3⟩
  | join sl pa pb iha ihb =>
    intro c Q ρ a w₀ w hsel h hr hs
    cases c <;> simp only [den] at h
    case seq x y =>
      simp only [noSelC, Bool.and_eq_true] at hsel
      cases hsub : sl.all (written x).contains with
      | false => rw [hsub] at h; exact h.elim
      | true =>
        rw [hsub, cond_true] at h
        obtain ⟨J, hA, hB⟩ := h
        refine wp_seq (wp_mono (iha x _ ρ a w₀ w hsel.1 hA hr hs) ?_)
        intro e a' w' ⟨hs', ρ', h1, h2, h3⟩
        have hx : ∀ t ∈ written x, t ∈ written (.seq x y) := fun t ht => List.mem_append_left _ ht
        cases e <;> simp only [Exit.then] at h3 ⊢
        case normal =>
          unfold givenS at h3
          cases hk : sl.all (fun s => (look ρ' s).isSome) with
          | false => rw [hk] at h3; exact h3.elim
          | true =>
            rw [hk, cond_true] at h3
            refine wp_mono (ihb y Q _ a' w₀ w' hsel.2 (hB _ _ h3) (h1.slots h2 hk) hs') ?_
            intro e a'' w'' ⟨hs'', ρ'', k1, k2, k3⟩
            exact ⟨hs'', ρ'', k1, ((ext_slots hsub).mono hx).trans (k2.mono fun t ht => List.mem_append_right _ ht), k3⟩
        case exit id => exact ⟨hs', ρ', h1, h2.mono hx, h3⟩
        case ret => exact ⟨hs', ρ', h1, h2.mono hx, h3⟩
  | cond pa pb iha ihb =>
    intro c Q ρ a w₀ w hsel h hr hs
    cases c <;> simp only [den] at h
    case cond t x y =>
      simp only [noSelC, Bool.and_eq_true] at hsel
      cases hk : known ρ t with
      | false => rw [hk] at h; exact h.elim
      | true =>
        rw [hk, cond_true] at h
        obtain ⟨b, hb, h1, h2⟩ := h
        have hev : a.eval t = .bool b := by rw [hr.eval hk]; exact hb
        cases b with
        | true => exact wp_cond_true hev (wp_mono (iha x Q ρ a w₀ w hsel.1 (h1 rfl) hr hs) (liftQ_mono (fun t ht => List.mem_append_left _ ht) fun _ _ _ h => h))
        | false => exact wp_cond_false hev (wp_mono (ihb y Q ρ a w₀ w hsel.2 (h2 rfl) hr hs) (liftQ_mono (fun t ht => List.mem_append_right _ ht) fun _ _ _ h => h))
  | block pa iha =>
    intro c Q ρ a w₀ w hsel h hr hs
    cases c <;> simp only [den] at h
    case block id x =>
      simp only [noSelC] at hsel
      refine wp_block (wp_mono (iha x _ ρ a w₀ w hsel h hr hs) ?_)
      intro e a' w' ⟨hs', ρ', h1, h2, h3⟩
      cases e <;> simp only [Exit.inBlock] at h3 ⊢
      case normal => exact ⟨hs', ρ', h1, h2, h3⟩
      case ret => exact ⟨hs', ρ', h1, h2, h3⟩
      case exit id' =>
        cases hb : Nat.beq id' id with
        | true =>
          have : id' = id := Nat.eq_of_beq_eq_true hb
          rw [hb, cond_true] at h3
          rw [if_pos this]
          exact ⟨hs', ρ', h1, h2, h3⟩
        | false =>
          rw [hb, cond_false] at h3
          rw [if_neg (fun e => by subst e; simp at hb)]
          exact ⟨hs', ρ', h1, h2, h3⟩
  | loop sl pa iha =>
    intro c Q ρ a w₀ w hsel h hr hs
    cases c <;> simp only [den] at h
    case loop x =>
      simp only [noSelC] at hsel
      cases hsub : sl.all (written x).contains with
      | false => rw [hsub] at h; exact h.elim
      | true =>
        rw [hsub, cond_true] at h
        unfold givenS at h
        cases hk : sl.all (fun s => (look ρ s).isSome) with
        | false => rw [hk] at h; exact h.elim
        | true =>
          rw [hk, cond_true] at h
          obtain ⟨I, ⟨n₀, hI₀⟩, hround⟩ := h
          refine wp_loop_ghost (fun m a' w' => Same w₀ w' ∧ ∃ vs, Rep n (zipS sl 0 vs ++ dropE (written x) ρ) a' ∧ I m vs w'.heap) n₀ ⟨hs, _, hr.slots (.refl _ _) hk, hI₀⟩ ?_
          intro m a' w' ⟨hs', vs, hrep, hI⟩
          refine wp_mono (iha x _ _ a' w₀ w' hsel (hround m vs w'.heap hI) hrep hs') ?_
          intro e a'' w'' ⟨hs'', ρ'', k1, k2, k3⟩
          have hext : Ext (written x) ρ ρ'' := (ext_slots hsub).trans k2
          cases e <;> simp only [Exit.then] at k3 ⊢
          case normal =>
            cases hk2 : sl.all (fun s => (look ρ'' s).isSome) with
            | false => rw [hk2] at k3; exact k3.elim
            | true =>
              rw [hk2, cond_true] at k3
              obtain ⟨m', hm', hI'⟩ := k3
              exact ⟨m', hm', hs'', _, k1.slots hext hk2, hI'⟩
          case exit id => exact ⟨hs'', ρ'', k1, hext, k3⟩
          case ret => exact ⟨hs'', ρ'', k1, hext, k3⟩
  | scope pa iha =>
    intro c Q ρ a w₀ w hsel h hr hs
    cases c <;> simp only [den] at h
    case scope x =>
      simp only [noSelC] at hsel
      refine wp_scope_straight (wp_mono (iha x _ ρ a w₀ w hsel h hr hs) ?_)
      intro e a' w' ⟨hs', ρ', h1, h2, h3⟩
      cases e <;> simp only [Exit.noGoto] at h3 ⊢
      case normal => exact ⟨hs', ρ', h1, h2, h3⟩
      case ret => exact ⟨hs', ρ', h1, h2, h3⟩
      case exit id => exact ⟨hs', ρ', h1, h2, h3⟩
end
end Go.Cps
namespace Go.Cps
open Go
section
variable {P : Program} {n : Nat}
theorem look_argEnv : ∀ (vs : List Value) (i t : Nat) (v : Value), look (argEnv i vs) t = some v → i ≤ t ∧ vs[t - i]? = some v
  | [], i, t, v, h => by simp [argEnv, look] at h
  | u :: r, i, t, v, h => by
    simp only [argEnv, look_cons] at h
    split at h
    · rename_i e; subst e; cases h; simp
    · rename_i e
      obtain ⟨h1, h2⟩ := look_argEnv r (i + 1) t v h
      refine ⟨by omega, ?_⟩
      have : t - i = (t - (i + 1)) + 1 := by omega
      rw [this, List.getElem?_cons_succ]
      exact h2
theorem Rep.start {args : List Value} {m : Nat} (h : args.length ≤ m) : Rep m (argEnv 0 args) { tmps := args.toArray ++ Array.replicate (m - args.toArray.size) undef, defers := [] } := by
  refine ⟨by simp; omega, rfl, fun t v hv => ?_⟩
  obtain ⟨_, h2⟩ := look_argEnv args 0 t v hv
  simp only [Nat.sub_zero] at h2
  have hlt : t < args.length := (List.getElem?_eq_some_iff.1 h2).1
  rw [Array.getElem?_append_left (by simpa using hlt)]
  simpa using h2
def resOne (tmps : Array Value) : ResultVar → Sem Value
  | .tmp t => pure (tmps.getD t undef)
  | .cell a t => do loadVar t (← asAddr (tmps.getD a undef))
theorem resVals_sound {ρ : Env} {a : Act} (hr : Rep n ρ a) (w : World) : ∀ (rs : List ResultVar) (K : List Value → Prop), resVals P ρ w.heap rs K →
    ∃ vs, (rs.mapM (resOne a.tmps)).run P w = .ok vs w ∧ K vs
  | [], K, h => ⟨[], rfl, h⟩
  | .tmp t :: r, K, h => by
    simp only [resVals] at h
    cases hk : (look ρ t).isSome with
    | false => rw [hk] at h; exact h.elim
    | true =>
      rw [hk, cond_true] at h
      obtain ⟨vs, h1, h2⟩ := resVals_sound hr w r _ h
      obtain ⟨v, hv⟩ := Option.isSome_iff_exists.1 hk
      have e1 : a.tmps.getD t undef = lookD ρ t := by simp [lookD, hv, hr.at_ t v hv]
      exact ⟨_, by simp [List.mapM_cons, resOne, e1, h1], h2⟩
  | .cell b t :: r, K, h => by
    simp only [resVals] at h
    cases hk : (look ρ b).isSome with
    | false => rw [hk] at h; exact h.elim
    | true =>
      rw [hk, cond_true] at h
      obtain ⟨v, hv⟩ := Option.isSome_iff_exists.1 hk
      have e1 : a.tmps.getD b undef = lookD ρ b := by simp [lookD, hv, hr.at_ b v hv]
      have key : ∀ u, (Instr.loadAt t (lookD ρ b)).run P w = .ok u w → resVals P ρ w.heap r (fun vs => K (u :: vs)) → ∃ vs, ((ResultVar.cell b t :: r).mapM (resOne a.tmps)).run P w = .ok vs w ∧ K vs := by
        intro u hu hK
        obtain ⟨vs, h1, h2⟩ := resVals_sound hr w r _ hK
        refine ⟨u :: vs, ?_, h2⟩
        have hl : (do loadVar t (← asAddr (lookD ρ b)) : Sem Value).run P w = .ok u w := by
          cases hx : lookD ρ b with
          | pointer p =>
            cases p with
            | some p => simpa [hx, Instr.loadAt, Instr.sureAddr, asAddr] using hu
            | none => simp [hx, Instr.loadAt, Instr.sureAddr] at hu
          | _ => simp [hx, Instr.loadAt, Instr.sureAddr] at hu
        simp only [List.mapM_cons, resOne, e1, Sem.run_bind] at hl ⊢
        simp only [hl, Result.andThen_ok, h1, Sem.run_pure]
      split at h
      · rename_i m ha
        obtain ⟨u, h1, h2⟩ := h
        exact key u (loadN_sound ha h1 w rfl) h2
      · rename_i m ha
        obtain ⟨u, h1, h2⟩ := h
        exact key u (load1_sound ha h1 w rfl) h2
      · exact h.elim
theorem results_run {fn : Func} {tmps : Array Value} {vs : List Value} {w : World} (h : (fn.results.toList.mapM (resOne tmps)).run P w = .ok vs w) : (results fn tmps).run P w = .ok (one vs) w := by
  have e1 : results fn tmps = (do let vs ← fn.results.mapM (resOne tmps); pure (if h : vs.size = 1 then vs[0] else .tuple vs)) := by
    unfold results
    congr 1
  have h' : (fn.results.mapM (resOne tmps)).run P w = .ok vs.toArray w := by
    rw [Array.mapM_eq_mapM_toList]
    simp only [Sem.run_map, h]
    rfl
  rw [e1]
  simp only [Sem.run_bind, h', Result.andThen_ok, Sem.run_pure]
  congr 1
  match vs with
  | [] => simp [one]
  | [v] => simp [one]
  | u :: v :: r => simp [one]
theorem callsH_of_den {f : FuncId} {fn : Func} {c : Code} {p : Plan} {args : List Value} {H : Heap} {R : Value → Heap → Prop} (hf : P.funcs[f]? = some fn) (hb : fn.body = some c)
    (hm : P.follows .mixedOrders = true) (hsel : noSelC c = true) (hn : Nat.ble args.length fn.ntmps = true) (h : den P fn.ntmps p c (retQ P fn.results.toList R) (argEnv 0 args) H) :
    CallsH P f args.toArray H R := by
  intro w hw
  refine calls_of_wp hf hb (wp_mono (den_sound hm p c _ (argEnv 0 args) _ w w hsel (by rw [hw]; exact h) (Rep.start (by simpa using Nat.le_of_ble_eq_true hn)) (.refl w)) ?_)
  intro e a' w' ⟨hs, ρ', h1, _, h3⟩
  have key : resVals P ρ' w'.heap fn.results.toList (fun vs => R (one vs) w'.heap) → a'.defers = [] ∧ ∃ v, (results fn a'.tmps).run P w' = .ok v w' ∧ ∃ u, Ending.returned v = .returned u ∧ Same w w' ∧ R u w'.heap := fun h => by
    obtain ⟨vs, h2, h3⟩ := resVals_sound h1 w' _ _ h
    exact ⟨h1.defers, one vs, results_run h2, one vs, rfl, hs, h3⟩
  cases e <;> simp only [retQ] at h3 <;> simp only [bodyPost]
  case normal => exact key h3
  case ret => exact key h3
theorem callsH_of_eq {f : FuncId} {fn : Func} {c : Code} (p : Plan) {args : List Value} {H : Heap} {R : Value → Heap → Prop} {B : Prop} (hf : P.funcs[f]? = some fn) (hb : fn.body = some c)
    (hm : P.follows .mixedOrders = true) (hsel : noSelC c = true) (hn : Nat.ble args.length fn.ntmps = true) (he : den P fn.ntmps p c (retQ P fn.results.toList R) (argEnv 0 args) H = B) (h : B) :
    CallsH P f args.toArray H R := callsH_of_den hf hb hm hsel hn (he ▸ h)
end
end Go.Cps
namespace Go.Cps
open Go Go.Proofs
theorem mixed : Tryz.prog.follows .mixedOrders = true := by kernel_rfl
def NewSl (cs : Array Value) (e n : Nat) (H : Heap) (K : Value → Heap → Prop) : Prop := K (.slice (some ⟨H.size, 0, none⟩) n n) (H.push (.cells cs e (0, 0)))
def NewMap (H : Heap) (K : Value → Heap → Prop) : Prop := K (.map (some H.size)) (H.push (.map #[] 0))
noncomputable def nilV (v : Value) : Option Value := nilVP Tryz.prog v
def Fld (off : Nat) (x : Value) (H : Heap) (K : Value → Prop) : Prop := Get (nilV x) fun y => Get (fieldAddrV off y) fun z => Get (load1V z H) K
end Go.Cps
