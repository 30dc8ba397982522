/-
  A region of operations at heap level, in one order, and why that order serves every order that Go leaves open.
  Conditions: a check over the region's text, by the kernel.
-/
import Derived.Test.YtfajmapajpfocaaGreatDoorC5
set_option linter.all false
namespace Go.Cps
open Go

/-- loads that were made in a region: number, what they read, what they gave -/
abbrev Mem := List (Nat × (Heap → Option Value) × Value)

section
variable {P : Program} {ops : Array Oper}

def recheck (chk : Nat → List Nat) (D : Mem) (i : Nat) (H : Heap) : Prop := ∀ x ∈ D, x.1 ∈ chk i → x.2.1 H = some x.2.2

/-- one operation's value -/
def hVal (P : Program) (ops : Array Oper) (chk : Nat → List Nat) (i : Nat) (o : Oper) (D : Mem) (N : Mem → Value → Heap → Prop) (a : Act) (H : Heap) : Prop :=
  if Region.wanted o (yielded ops a.tmps) then
    match kindOf P o with
    | .pure => ∃ v, pureV P a.eval o = some v ∧ N D v H
    | .read => ∃ v, readV P a.eval H o = some v ∧ N ((i, fun H' => readV P a.eval H' o, v) :: D) v H
    | .eff => ExecH P (execOp a.eval o) H fun v H' => recheck chk D i H' ∧ N D v H'
  else N D undef H
/-- one operation -/
def hOp (P : Program) (ops : Array Oper) (chk : Nat → List Nat) (i : Nat) (o : Oper) (D : Mem) (M : Mem → Act → Heap → Prop) (a : Act) (H : Heap) : Prop :=
  hVal P ops chk i o D (fun D' v H' => M D' (a.put o.dst v) H') a H

def hRun (P : Program) (ops : Array Oper) (chk : Nat → List Nat) (K : Act → Heap → Prop) : List Nat → Mem → Act → Heap → Prop
  | [], _, a, H => K a H
  | i :: r, D, a, H => ∃ o, ops[i]? = some o ∧ hOp P ops chk i o D (hRun P ops chk K r) a H

theorem hVal_mono {chk : Nat → List Nat} {i : Nat} {o : Oper} {D D' : Mem} {N N' : Mem → Value → Heap → Prop} {a : Act} {H : Heap} (hD : ∀ x ∈ D', x ∈ D)
    (hN : ∀ E E' v H, (∀ x ∈ E', x ∈ E) → N E v H → N' E' v H) (h : hVal P ops chk i o D N a H) : hVal P ops chk i o D' N' a H := by
  unfold hVal at *
  split
  · rename_i hw
    simp only [hw, if_true] at h
    split
    · rename_i hk; simp only [hk] at h; obtain ⟨v, h1, h2⟩ := h; exact ⟨v, h1, hN _ _ _ _ hD h2⟩
    · rename_i hk; simp only [hk] at h; obtain ⟨v, h1, h2⟩ := h
      exact ⟨v, h1, hN _ _ _ _ (fun x hx => by
        rcases List.mem_cons.1 hx with rfl | hx
        · exact List.mem_cons_self
        · exact List.mem_cons_of_mem _ (hD x hx)) h2⟩
    · rename_i hk; simp only [hk] at h
      exact h.mono fun v H' ⟨h1, h2⟩ => ⟨fun x hx hc => h1 x (hD x hx) hc, hN _ _ _ _ hD h2⟩
  · rename_i hw
    simp only [hw] at h
    exact hN _ _ _ _ hD h

theorem hOp_mono {chk : Nat → List Nat} {i : Nat} {o : Oper} {D D' : Mem} {M M' : Mem → Act → Heap → Prop} {a : Act} {H : Heap} (hD : ∀ x ∈ D', x ∈ D)
    (hM : ∀ E E' a H, (∀ x ∈ E', x ∈ E) → M E a H → M' E' a H) (h : hOp P ops chk i o D M a H) : hOp P ops chk i o D' M' a H :=
  hVal_mono hD (fun _ _ _ _ hE hN => hM _ _ _ _ hE hN) h

theorem hRun_mono {chk : Nat → List Nat} {K K' : Act → Heap → Prop} (hK : ∀ a H, K a H → K' a H) : ∀ (L : List Nat) (D D' : Mem) (a : Act) (H : Heap), (∀ x ∈ D', x ∈ D) →
    hRun P ops chk K L D a H → hRun P ops chk K' L D' a H
  | [], _, _, a, H, _, h => hK a H h
  | _ :: r, _, _, _, _, hD, ⟨o, ho, h⟩ => ⟨o, ho, hOp_mono hD (fun E E' a H hE => hRun_mono hK r E E' a H hE) h⟩

/- it is a walk of the model, in that very order -/
theorem wpOps_of_hRun {chk : Nat → List Nat} {K : Act → Heap → Prop} {w₀ : World} {Q : Exit → Act → World → Prop} (hQ : ∀ a w, Same w₀ w → K a w.heap → Q .normal a w) : ∀ (L : List Nat) (D : Mem) (a : Act) (w : World), Same w₀ w → hRun P ops chk K L D a w.heap → wpOps P ops Q L a w
  | [], _, a, w, hs, h => hQ a w hs h
  | i :: r, D, a, w, hs, ⟨o, ho, h⟩ => by
    simp only [wpOps, ho]
    unfold hOp hVal at h
    split
    · rename_i hw
      simp only [hw, if_true] at h
      refine .inl ?_
      split at h
      · obtain ⟨v, h1, h2⟩ := h
        unfold Oper.wp
        rw [pureV_sound (fun _ => rfl) h1 w]
        exact wpOps_of_hRun hQ r D _ w hs h2
      · obtain ⟨v, h1, h2⟩ := h
        unfold Oper.wp
        rw [readV_sound h1 w rfl]
        exact wpOps_of_hRun hQ r _ _ w hs h2
      · exact wp_of_good (K := fun v H' => recheck chk D i H' ∧ hRun P ops chk K r D (a.put o.dst v) H') hs (fun v w' hs' hK => wpOps_of_hRun hQ r D _ w' hs' hK.2) (h w rfl)
    · rename_i hw
      simp only [hw] at h
      exact wpOps_of_hRun hQ r D _ w hs h

/- congruence of what an operation yields -/
theorem pureV_congr {ρ ρ' : Operand → Value} (o : Oper) (h : ∀ x ∈ o.op.operands, ρ x = ρ' x) : pureV P ρ o = pureV P ρ' o := by
  obtain ⟨dst, op, type, pos, after, guard⟩ := o
  cases op <;> simp only [Op.operands] at h <;> simp only [pureV]
  case slice t x lo hi mx => cases lo <;> cases hi <;> cases mx <;> simp_all
  case makeFunc fn a b => rw [Array.map_congr_left (xs := a) fun x hx => h x (by simp [hx]), Array.map_congr_left (xs := b) fun x hx => h x (by simp [hx])]
  case build t parts =>
    have : (parts.toList.map fun p => (p.1, ρ p.2)) = (parts.toList.map fun p => (p.1, ρ' p.2)) := List.map_congr_left fun p hp => by
      rw [h p.2 (by simpa using ⟨p.1, by simpa using hp⟩)]
    rw [this]
  case binOp op t x y yt => simp only [binV]; rw [h x (by simp), h y (by simp)]
  case call c =>
    obtain ⟨callee, args, argTypes⟩ := c
    cases callee <;> simp only []
    simp only [Call.operands] at h
    have h' : ∀ x ∈ args.toList, ρ x = ρ' x := fun x hx => h x (by simpa using hx)
    split
    · rename_i x t rest ha hat; rw [h' x (by simp [ha])]
    · rename_i x t rest ha hat; rw [h' x (by simp [ha])]
    · rename_i x y ha; rw [h' x (by simp [ha]), h' y (by simp [ha])]
    · rename_i x y ha; rw [h' x (by simp [ha]), h' y (by simp [ha])]
    · rfl
  all_goals (first | rfl | (simp_all; done))

theorem readV_congr {ρ ρ' : Operand → Value} (o : Oper) (h : ∀ x ∈ o.op.operands, ρ x = ρ' x) (H : Heap) : readV P ρ H o = readV P ρ' H o := by
  obtain ⟨dst, op, type, pos, after, guard⟩ := o
  cases op <;> simp only [Op.operands] at h <;> simp only [readV]
  all_goals (first | rfl | (simp_all; done))

theorem hVal_skip {chk : Nat → List Nat} {i : Nat} {o : Oper} {D : Mem} {N : Mem → Value → Heap → Prop} {a : Act} {H : Heap} (h : ¬ Region.wanted o (yielded ops a.tmps) = true) :
    hVal P ops chk i o D N a H = N D undef H := by
  unfold hVal
  rw [if_neg h]

theorem hVal_put {chk : Nat → List Nat} {i : Nat} {o : Oper} {D : Mem} {N : Mem → Value → Heap → Prop} {a : Act} {H : Heap} (hs : ∀ cs b, o.op ≠ .select cs b) (dst : Option Tmp) (u : Value)
    (hd : ∀ d, dst = some d → d ∉ o.looksAt ops) : hVal P ops chk i o D N (a.put dst u) H = hVal P ops chk i o D N a H := by
  have hop : ∀ x ∈ o.op.operands, (a.put dst u).eval x = a.eval x := fun x hx => Act.eval_put fun d hd' hxd => hd d hd' (by
    subst hxd
    exact List.mem_append_left _ (List.mem_filterMap.2 ⟨.tmp d, by simpa using hx, rfl⟩))
  unfold hVal
  rw [wanted_put o a dst u hd, execOp_put o hs a dst u hd, pureV_congr (P := P) o hop]
  have hr : ∀ H, readV P (a.put dst u).eval H o = readV P a.eval H o := fun H => readV_congr (P := P) o hop H
  simp only [hr]

inductive Commutes (P : Program) (chk : Nat → List Nat) (j i : Nat) (oj oi : Oper) : Prop
  | pureL (h : kindOf P oj = .pure)
  | pureR (h : kindOf P oi = .pure)
  | reads (h : kindOf P oj = .read) (h' : kindOf P oi = .read)
  | flagged (h : kindOf P oj = .read) (h' : kindOf P oi = .eff) (hc : j ∈ chk i)

theorem live_of {P : Program} {s : Sem Next} {H : Heap} {K : Value → Heap → Prop} {p : Prop} (h : ExecH P s H K) (hp : ∀ v H', K v H' → p) : p :=
  let ⟨v, H', hk⟩ := h.live
  hp v H' hk

theorem hVal_swap {chk : Nat → List Nat} {i j : Nat} {oi oj : Oper} (hc : Commutes P chk j i oj oi) {N : Mem → Value → Value → Heap → Prop}
    (hN : ∀ E E' u v H, (∀ x ∈ E', x ∈ E) → N E u v H → N E' u v H) {D : Mem} {a : Act} {H : Heap}
    (h : hVal P ops chk j oj D (fun D1 vj H1 => hVal P ops chk i oi D1 (fun D2 vi H2 => N D2 vi vj H2) a H1) a H) :
    hVal P ops chk i oi D (fun D1 vi H1 => hVal P ops chk j oj D1 (fun D2 vj H2 => N D2 vi vj H2) a H1) a H := by
  by_cases wj : Region.wanted oj (yielded ops a.tmps) = true
  case neg =>
    rw [hVal_skip wj] at h
    refine hVal_mono (fun _ h => h) (fun E E' v H hE hN' => ?_) h
    rw [hVal_skip wj]
    exact hN _ _ _ _ _ hE hN'
  by_cases wi : Region.wanted oi (yielded ops a.tmps) = true
  case neg =>
    rw [hVal_skip wi]
    refine hVal_mono (fun _ h => h) (fun E E' v H hE hN' => ?_) h
    rw [hVal_skip wi] at hN'
    exact hN _ _ _ _ _ hE hN'
  have sub : ∀ {x y : Nat × (Heap → Option Value) × Value} {D : Mem}, ∀ z ∈ y :: x :: D, z ∈ x :: y :: D := by
    intro x y D z hz
    simp only [List.mem_cons] at hz ⊢
    rcases hz with h | h | h
    · exact .inr (.inl h)
    · exact .inl h
    · exact .inr (.inr h)
  have subt : ∀ {x : Nat × (Heap → Option Value) × Value} {D : Mem}, ∀ z ∈ D, z ∈ x :: D := fun z hz => List.mem_cons_of_mem _ hz
  cases kj : kindOf P oj <;> cases ki : kindOf P oi <;> (unfold hVal at h ⊢; simp only [wj, wi, kj, ki, if_true] at h ⊢)
  case pure.pure => obtain ⟨vj, hj, vi, hi, hn⟩ := h; exact ⟨vi, hi, vj, hj, hn⟩
  case pure.read => obtain ⟨vj, hj, vi, hi, hn⟩ := h; exact ⟨vi, hi, vj, hj, hn⟩
  case pure.eff => obtain ⟨vj, hj, hn⟩ := h; exact hn.mono fun vi H' ⟨h1, h2⟩ => ⟨h1, vj, hj, h2⟩
  case read.pure => obtain ⟨vj, hj, vi, hi, hn⟩ := h; exact ⟨vi, hi, vj, hj, hn⟩
  case read.read => obtain ⟨vj, hj, vi, hi, hn⟩ := h; exact ⟨vi, hi, vj, hj, hN _ _ _ _ _ sub hn⟩
  case read.eff =>
    obtain ⟨vj, hj, hn⟩ := h
    have hch : j ∈ chk i := by cases hc <;> simp_all
    refine hn.mono fun vi H' ⟨h1, h2⟩ => ⟨fun x hx hxc => h1 x (List.mem_cons_of_mem _ hx) hxc, vj, ?_, h2⟩
    exact h1 _ List.mem_cons_self hch
  case eff.pure =>
    have hp := live_of h fun v H' ⟨_, u, hu, _⟩ => (⟨u, hu⟩ : ∃ u, pureV P a.eval oi = some u)
    obtain ⟨u, hu⟩ := hp
    refine ⟨u, hu, h.mono fun vj H' ⟨h1, u', hu', hn⟩ => ⟨h1, ?_⟩⟩
    have : u' = u := Option.some.inj (hu'.symm.trans hu)
    subst this
    exact hn
  case eff.read => cases hc <;> simp_all
  case eff.eff => cases hc <;> simp_all

theorem hOp_swap {chk : Nat → List Nat} {i j : Nat} {oi oj : Oper} (hc : Commutes P chk j i oj oi) (hap : oj.apart ops oi = true) (hsi : ∀ cs b, oi.op ≠ .select cs b) (hsj : ∀ cs b, oj.op ≠ .select cs b)
    {M : Mem → Act → Heap → Prop} (hM : ∀ E E' a H, (∀ x ∈ E', x ∈ E) → M E a H → M E' a H) {D : Mem} {a : Act} {H : Heap}
    (h : hOp P ops chk j oj D (hOp P ops chk i oi · M) a H) : hOp P ops chk i oi D (hOp P ops chk j oj · M) a H := by
  obtain ⟨h1, h2, h3⟩ := Oper.apart_spec hap
  unfold hOp at h ⊢
  have e1 : ∀ vj D1 H1, hVal P ops chk i oi D1 (fun D2 vi H2 => M D2 ((a.put oj.dst vj).put oi.dst vi) H2) (a.put oj.dst vj) H1 =
      hVal P ops chk i oi D1 (fun D2 vi H2 => M D2 ((a.put oi.dst vi).put oj.dst vj) H2) a H1 := fun vj D1 H1 => by
    rw [hVal_put hsi _ _ h1]
    simp only [fun vi => Act.put_comm a vj vi h2]
  have e2 : ∀ vi D1 H1, hVal P ops chk j oj D1 (fun D2 vj H2 => M D2 ((a.put oi.dst vi).put oj.dst vj) H2) (a.put oi.dst vi) H1 =
      hVal P ops chk j oj D1 (fun D2 vj H2 => M D2 ((a.put oi.dst vi).put oj.dst vj) H2) a H1 := fun vi D1 H1 => hVal_put hsj _ _ h3
  simp only [e1] at h
  simp only [e2]
  exact hVal_swap hc (N := fun D2 vi vj H2 => M D2 ((a.put oi.dst vi).put oj.dst vj) H2) (fun E E' u v H hE hN => hM _ _ _ _ hE hN) h

/-- j may be passed by i -/
def passB (P : Program) (ops : Array Oper) (chk : Nat → List Nat) (j i : Nat) : Bool :=
  match ops[j]?, ops[i]? with
  | some oj, some oi => oj.apart ops oi && (match kindOf P oj, kindOf P oi with
    | .pure, _ | _, .pure | .read, .read => true
    | .read, .eff => (chk i).contains j
    | _, _ => false)
  | _, _ => false

theorem passB_spec {chk : Nat → List Nat} {i j : Nat} {oi oj : Oper} (hj : ops[j]? = some oj) (hi : ops[i]? = some oi) (h : passB P ops chk j i = true) : oj.apart ops oi = true ∧ Commutes P chk j i oj oi := by
  unfold passB at h
  simp only [hj, hi, Bool.and_eq_true] at h
  refine ⟨h.1, ?_⟩
  have h2 := h.2
  cases kj : kindOf P oj <;> cases ki : kindOf P oi <;> simp only [kj, ki] at h2 <;>
    first
      | exact .pureL kj
      | exact .pureR ki
      | exact .reads kj ki
      | exact .flagged kj ki (by simpa using h2)
      | contradiction

def hOpI (P : Program) (ops : Array Oper) (chk : Nat → List Nat) (i : Nat) (D : Mem) (M : Mem → Act → Heap → Prop) (a : Act) (H : Heap) : Prop :=
  ∃ o, ops[i]? = some o ∧ hOp P ops chk i o D M a H

theorem hRun_anti {chk : Nat → List Nat} {K : Act → Heap → Prop} (L : List Nat) : ∀ (E E' : Mem) (a : Act) (H : Heap), (∀ x ∈ E', x ∈ E) → hRun P ops chk K L E a H → hRun P ops chk K L E' a H :=
  fun E E' a H hE h => hRun_mono (fun _ _ h => h) L E E' a H hE h

theorem hRun_pull (hsel : Region.noSelect ops = true) {chk : Nat → List Nat} {K : Act → Heap → Prop} (i : Nat) (L2 : List Nat) : ∀ (L1 : List Nat) (D : Mem) (a : Act) (H : Heap),
    (∀ j ∈ L1, passB P ops chk j i = true) → hRun P ops chk K (L1 ++ i :: L2) D a H → hOpI P ops chk i D (hRun P ops chk K (L1 ++ L2)) a H
  | [], D, a, H, _, h => h
  | j :: L1, D, a, H, hp, ⟨oj, hoj, h⟩ => by
    have hns := Region.noSelect_spec hsel
    have ih := hRun_pull hsel (chk := chk) (K := K) i L2 L1
    have hp' : ∀ k ∈ L1, passB P ops chk k i = true := fun k hk => hp k (List.mem_cons_of_mem _ hk)
    cases hoi : ops[i]? with
    | none =>
      have := hp j List.mem_cons_self
      unfold passB at this
      simp [hoj, hoi] at this
    | some oi =>
      obtain ⟨hap, hc⟩ := passB_spec hoj hoi (hp j List.mem_cons_self)
      have h1 : hOp P ops chk j oj D (hOp P ops chk i oi · (hRun P ops chk K (L1 ++ L2))) a H := hOp_mono (fun _ h => h) (fun E E' a H hE hr => by
        obtain ⟨o, ho, h⟩ := ih E' a H hp' (hRun_anti _ E E' a H hE hr)
        have : o = oi := Option.some.inj (ho.symm.trans hoi)
        subst this
        exact h) h
      have h2 := hOp_swap hc hap (fun cs b => hns i oi cs b hoi) (fun cs b => hns j oj cs b hoj) (hRun_anti (L1 ++ L2)) h1
      exact ⟨oi, hoi, hOp_mono (fun _ h => h) (fun E E' a H hE hr => ⟨oj, hoj, hOp_mono hE (fun E E' a H hE hr => hRun_anti _ E E' a H hE hr) hr⟩) h2⟩
end
end Go.Cps
