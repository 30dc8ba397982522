/-
  A part of the proof: A region of operations at heap level, in one order, and why that order serves every order that Go leaves open. One order of a region serves every order that Go leaves open; and a region in its own order. The proposition that a function's body comes to, over an environment of its named temporaries, by a plan.
  Conditions: each contract's own.
-/
import Derived.Test.YteajpfckbnfdaaaGreatDoorH2
set_option linter.all false
namespace Go.Cps
open Go
abbrev Mem := List (Nat × (Heap → Option Value) × Value)
section
variable {P : Program} {ops : Array Oper}
def recheck (chk : Nat → List Nat) (D : Mem) (i : Nat) (H : Heap) : Prop := ∀ x ∈ D, x.1 ∈ chk i → x.2.1 H = some x.2.2
def hVal (P : Program) (ops : Array Oper) (chk : Nat → List Nat) (i : Nat) (o : Oper) (D : Mem) (N : Mem → Value → Heap → Prop) (a : Act) (H : Heap) : Prop :=
  if Region.wanted o (yielded ops a.tmps) then
    match kindOf P o with
    | .pure => ∃ v, pureV P a.eval o = some v ∧ N D v H
    | .read => ∃ v, readV P a.eval H o = some v ∧ N ((i, fun H' => readV P a.eval H' o, v) :: D) v H
    | .eff => ExecH P (execOp a.eval o) H fun v H' => recheck chk D i H' ∧ N D v H'
  else N D undef H
def hOp (P : Program) (ops : Array Oper) (chk : Nat → List Nat) (i : Nat) (o : Oper) (D : Mem) (M : Mem → Act → Heap → Prop) (a : Act) (H : Heap) : Prop :=
  hVal P ops chk i o D (fun D' v H' => M D' (a.put o.dst v) H') a H
def hRun (P : Program) (ops : Array Oper) (chk : Nat → List Nat) (K : Act → Heap → Prop) : List Nat → Mem → Act → Heap → Prop
  | [], _, a, H => K a H
  | i :: r, D, a, H => ∃ o, ops[i]? = some o ∧ hOp P ops chk i o D (hRun P ops chk K r) a H
theorem hVal_mono {chk : Nat → List Nat} {i : Nat} {o : Oper} {D D' : Mem} {N N' : Mem → Value → Heap → Prop} {a : Act} {H : Heap} (hD : ∀ x ∈ D', x ∈ D)
    (hN : ∀ E E' v H, (∀ x ∈ E', x ∈ E) → N E v H → N' E' v H) (h : hVal P ops chk i o D N a H) : hVal P ops chk i o D' N' a H := by
  unfold hVal at *
  split
  · rename_i hw
    simp only [hw, if_true] at h
    split
    · rename_i hk; simp only [hk] at h; obtain ⟨v, h1, h2⟩ := h; exact ⟨v, h1, hN _ _ _ _ hD h2⟩
    · rename_i hk; simp only [hk] at h; obtain ⟨v, h1, h2⟩ := h
      exact ⟨v, h1, hN _ _ _ _ (fun x hx => by
        rcases List.mem_cons.1 hx with rfl | hx
        · exact List.mem_cons_self
        · exact List.mem_cons_of_mem _ (hD x hx)) h2⟩
    · rename_i hk; simp only [hk] at h
      exact h.mono fun v H' ⟨h1, h2⟩ => ⟨fun x hx hc => h1 x (hD x hx) hc, hN _ _ _ _ hD h2⟩
  · rename_i hw
    simp only [hw] at h
    exact hN _ _ _ _ hD h
theorem hOp_mono {chk : Nat → List Nat} {i : Nat} {o : Oper} {D D' : Mem} {M M' : Mem → Act → Heap → Prop} {a : Act} {H : Heap} (hD : ∀ x ∈ D', x ∈ D)
    (hM : ∀ E E' a H, (∀ x ∈ E', x ∈ E) → M E a H → M' E' a H) (h : hOp P ops chk i o D M a H) : hOp P ops chk i o D' M' a H :=
  hVal_mono hD (fun _ _ _ _ hE hN => hM _ _ _ _ hE hN) h
theorem hRun_mono {chk : Nat → List Nat} {K K' : Act → Heap → Prop} (hK : ∀ a H, K a H → K' a H) : ∀ (L : List Nat) (D D' : Mem) (a : Act) (H : Heap), (∀ x ∈ D', x ∈ D) →
    hRun P ops chk K L D a H → hRun P ops chk K' L D' a H
  | [], _, _, a, H, _, h => hK a H h
  | _ :: r, _, _, _, _, hD, ⟨o, ho, h⟩ => ⟨o, ho, hOp_mono hD (fun E E' a H hE => hRun_mono hK r E E' a H hE) h⟩
theorem wpOps_of_hRun {chk : Nat → List Nat} {K : Act → Heap → Prop} {w₀ : World} {Q : Exit → Act → World → Prop} (hQ : ∀ a w, Same w₀ w → K a w.heap → Q .normal a w) : ∀ (L : List Nat) (D : Mem) (a : Act) (w : World), Same w₀ w → hRun P ops chk K L D a w.heap → wpOps P ops Q L a w
  | [], _, a, w, hs, h => hQ a w hs h
  | i :: r, D, a, w, hs, ⟨o, ho, h⟩ => by
    simp only [wpOps, ho]
    unfold hOp hVal at h
    split
    · rename_i hw
      simp only [hw, if_true] at h
      refine .inl ?_
      split at h
      · obtain ⟨v, h1, h2⟩ := h
        unfold Oper.wp
        rw [pureV_sound (fun _ => rfl) h1 w]
        exact wpOps_of_hRun hQ r D _ w hs h2
      · obtain ⟨v, h1, h2⟩ := h
        unfold Oper.wp
        rw [readV_sound h1 w rfl]
        exact wpOps_of_hRun hQ r _ _ w hs h2
      · exact wp_of_good (K := fun v H' => recheck chk D i H' ∧ hRun P ops chk K r D (a.put o.dst v) H') hs (fun v w' hs' hK => wpOps_of_hRun hQ r D _ w' hs' hK.2) (h w rfl)
    · rename_i hw
      simp only [hw] at h
      exact wpOps_of_hRun hQ r D _ w hs h
theorem pureV_congr {ρ ρ' : Operand → Value} (o : Oper) (h : ∀ x ∈ o.op.operands, ρ x = ρ' x) : pureV P ρ o = pureV P ρ' o := by
  obtain ⟨dst, op, type, pos, after, guard⟩ := o
  cases op <;> simp only [Op.operands] at h <;> simp only [pureV]
  case slice t x lo hi mx => cases lo <;> cases hi <;> cases mx <;> simp_all
  case makeFunc fn a b => rw [Array.map_congr_left (xs := a) fun x hx => h x (by simp [hx]), Array.map_congr_left (xs := b) fun x hx => h x (by simp [hx])]
  case build t parts =>
    have : (parts.toList.map fun p => (p.1, ρ p.2)) = (parts.toList.map fun p => (p.1, ρ' p.2)) := List.map_congr_left fun p hp => by
      rw [h p.2 (by simpa using ⟨p.1, by simpa using hp⟩)]
    rw [this]
  case binOp op t x y yt => simp only [binV]; rw [h x (by simp), h y (by simp)]
  case call c =>
    obtain ⟨callee, args, argTypes⟩ := c
    cases callee <;> simp only []
    simp only [Call.operands] at h
    have h' : ∀ x ∈ args.toList, ρ x = ρ' x := fun x hx => h x (by simpa using hx)
    split
    · rename_i x t rest ha hat; rw [h' x (by simp [ha])]
    · rename_i x t rest ha hat; rw [h' x (by simp [ha])]
    · rename_i x y ha; rw [h' x (by simp [ha]), h' y (by simp [ha])]
    · rename_i x y ha; rw [h' x (by simp [ha]), h' y (by simp [ha])]
    · rfl
  all_goals (first | rfl | (simp_all; done))
theorem readV_congr {ρ ρ' : Operand → Value} (o : Oper) (h : ∀ x ∈ o.op.operands, ρ x = ρ' x) (H : Heap) : readV P ρ H o = readV P ρ' H o := by
  obtain ⟨dst, op, type, pos, after, guard⟩ := o
  cases op <;> simp only [Op.operands] at h <;> simp only [readV]
  all_goals (first | rfl | (simp_all; done))
theorem hVal_skip {chk : Nat → List Nat} {i : Nat} {o : Oper} {D : Mem} {N : Mem → Value → Heap → Prop} {a : Act} {H : Heap} (h : ¬ Region.wanted o (yielded ops a.tmps) = true) :
    hVal P ops chk i o D N a H = N D undef H := by
  unfold hVal
  rw [if_neg h]
theorem hVal_put {chk : Nat → List Nat} {i : Nat} {o : Oper} {D : Mem} {N : Mem → Value → Heap → Prop} {a : Act} {H : Heap} (hs : ∀ cs b, o.op ≠ .select cs b) (dst : Option Tmp) (u : Value)
    (hd : ∀ d, dst = some d → d ∉ o.looksAt ops) : hVal P ops chk i o D N (a.put dst u) H = hVal P ops chk i o D N a H := by
  have hop : ∀ x ∈ o.op.operands, (a.put dst u).eval x = a.eval x := fun x hx => Act.eval_put fun d hd' hxd => hd d hd' (by
    subst hxd
    exact List.mem_append_left _ (List.mem_filterMap.2 ⟨.tmp d, by simpa using hx, rfl⟩))
  unfold hVal
  rw [wanted_put o a dst u hd, execOp_put o hs a dst u hd, pureV_congr (P := P) o hop]
  have hr : ∀ H, readV P (a.put dst u).eval H o = readV P a.eval H o := fun H => readV_congr (P := P) o hop H
  simp only [hr]
inductive Commutes (P : Program) (chk : Nat → List Nat) (j i : Nat) (oj oi : Oper) : Prop
  | pureL (h : kindOf P oj = .pure)
  | pureR (h : kindOf P oi = .pure)
  | reads (h : kindOf P oj = .read) (h' : kindOf P oi = .read)
  | flagged (h : kindOf P oj = .read) (h' : kindOf P oi = .eff) (hc : j ∈ chk i)
theorem live_of {P : Program} {s : Sem Next} {H : Heap} {K : Value → Heap → Prop} {p : Prop} (h : ExecH P s H K) (hp : ∀ v H', K v H' → p) : p :=
  let ⟨v, H', hk⟩ := h.live
  hp v H' hk
theorem hVal_swap {chk : Nat → List Nat} {i j : Nat} {oi oj : Oper} (hc : Commutes P chk j i oj oi) {N : Mem → Value → Value → Heap → Prop}
    (hN : ∀ E E' u v H, (∀ x ∈ E', x ∈ E) → N E u v H → N E' u v H) {D : Mem} {a : Act} {H : Heap}
    (h : hVal P ops chk j oj D (fun D1 vj H1 => hVal P ops chk i oi D1 (fun D2 vi H2 => N D2 vi vj H2) a H1) a H) :
    hVal P ops chk i oi D (fun D1 vi H1 => hVal P ops chk j oj D1 (fun D2 vj H2 => N D2 vi vj H2) a H1) a H := by
  by_cases wj : Region.wanted oj (yielded ops a.tmps) = true
  case neg =>
    rw [hVal_skip wj] at h
    refine hVal_mono (fun _ h => h) (fun E E' v H hE hN' => ?_) h
    rw [hVal_skip wj]
    exact hN _ _ _ _ _ hE hN'
  by_cases wi : Region.wanted oi (yielded ops a.tmps) = true
  case neg =>
    rw [hVal_skip wi]
    refine hVal_mono (fun _ h => h) (fun E E' v H hE hN' => ?_) h
    rw [hVal_skip wi] at hN'
    exact hN _ _ _ _ _ hE hN'
  have sub : ∀ {x y : Nat × (Heap → Option Value) × Value} {D : Mem}, ∀ z ∈ y :: x :: D, z ∈ x :: y :: D := by
    intro x y D z hz
    simp only [List.mem_cons] at hz ⊢
    rcases hz with h | h | h
    · exact .inr (.inl h)
    · exact .inl h
    · exact .inr (.inr h)
  have subt : ∀ {x : Nat × (Heap → Option Value) × Value} {D : Mem}, ∀ z ∈ D, z ∈ x :: D := fun z hz => List.mem_cons_of_mem _ hz
  cases kj : kindOf P oj <;> cases ki : kindOf P oi <;> (unfold hVal at h ⊢; simp only [wj, wi, kj, ki, if_true] at h ⊢)
  case pure.pure => obtain ⟨vj, hj, vi, hi, hn⟩ := h; exact ⟨vi, hi, vj, hj, hn⟩
  case pure.read => obtain ⟨vj, hj, vi, hi, hn⟩ := h; exact ⟨vi, hi, vj, hj, hn⟩
  case pure.eff => obtain ⟨vj, hj, hn⟩ := h; exact hn.mono fun vi H' ⟨h1, h2⟩ => ⟨h1, vj, hj, h2⟩
  case read.pure => obtain ⟨vj, hj, vi, hi, hn⟩ := h; exact ⟨vi, hi, vj, hj, hn⟩
  case read.read => obtain ⟨vj, hj, vi, hi, hn⟩ := h; exact ⟨vi, hi, vj, hj, hN _ _ _ _ _ sub hn⟩
  case read.eff =>
    obtain ⟨vj, hj, hn⟩ := h
    have hch : j ∈ chk i := by cases hc <;> simp_all
    refine hn.mono fun vi H' ⟨h1, h2⟩ => ⟨fun x hx hxc => h1 x (List.mem_cons_of_mem _ hx) hxc, vj, ?_, h2⟩
    exact h1 _ List.mem_cons_self hch
  case eff.pure =>
    have hp := live_of h fun v H' ⟨_, u, hu, _⟩ => (⟨u, hu⟩ : ∃ u, pureV P a.eval oi = some u)
    obtain ⟨u, hu⟩ := hp
    refine ⟨u, hu, h.mono fun vj H' ⟨h1, u', hu', hn⟩ => ⟨h1, ?_⟩⟩
    have : u' = u := Option.some.inj (hu'.symm.trans hu)
    subst this
    exact hn
  case eff.read => cases hc <;> simp_all
  case eff.eff => cases hc <;> simp_all
theorem hOp_swap {chk : Nat → List Nat} {i j : Nat} {oi oj : Oper} (hc : Commutes P chk j i oj oi) (hap : oj.apart ops oi = true) (hsi : ∀ cs b, oi.op ≠ .select cs b) (hsj : ∀ cs b, oj.op ≠ .select cs b)
    {M : Mem → Act → Heap → Prop} (hM : ∀ E E' a H, (∀ x ∈ E', x ∈ E) → M E a H → M E' a H) {D : Mem} {a : Act} {H : Heap}
    (h : hOp P ops chk j oj D (hOp P ops chk i oi · M) a H) : hOp P ops chk i oi D (hOp P ops chk j oj · M) a H := by
  obtain ⟨h1, h2, h3⟩ := Oper.apart_spec hap
  unfold hOp at h ⊢
  have e1 : ∀ vj D1 H1, hVal P ops chk i oi D1 (fun D2 vi H2 => M D2 ((a.put oj.dst vj).put oi.dst vi) H2) (a.put oj.dst vj) H1 =
      hVal P ops chk i oi D1 (fun D2 vi H2 => M D2 ((a.put oi.dst vi).put oj.dst vj) H2) a H1 := fun vj D1 H1 => by
    rw [hVal_put hsi _ _ h1]
    simp only [fun vi => Act.put_comm a vj vi h2]
  have e2 : ∀ vi D1 H1, hVal P ops chk j oj D1 (fun D2 vj H2 => M D2 ((a.put oi.dst vi).put oj.dst vj) H2) (a.put oi.dst vi) H1 =
      hVal P ops chk j oj D1 (fun D2 vj H2 => M D2 ((a.put oi.dst vi).put oj.dst vj) H2) a H1 := fun vi D1 H1 => hVal_put hsj _ _ h3
  simp only [e1] at h
  simp only [e2]
  exact hVal_swap hc (N := fun D2 vi vj H2 => M D2 ((a.put oi.dst vi).put oj.dst vj) H2) (fun E E' u v H hE hN => hM _ _ _ _ hE hN) h
def passB (P : Program) (ops : Array Oper) (chk : Nat → List Nat) (j i : Nat) : Bool :=
  match ops[j]?, ops[i]? with
  | some oj, some oi => oj.apart ops oi && (match kindOf P oj, kindOf P oi with
    | .pure, _ | _, .pure | .read, .read => true
    | .read, .eff => (chk i).contains j
    | _, _ => false)
  | _, _ => false
theorem passB_spec {chk : Nat → List Nat} {i j : Nat} {oi oj : Oper} (hj : ops[j]? = some oj) (hi : ops[i]? = some oi) (h : passB P ops chk j i = true) : oj.apart ops oi = true ∧ Commutes P chk j i oj oi := by
  unfold passB at h
  simp only [hj, hi, Bool.and_eq_true] at h
  refine ⟨h.1, ?_⟩
  have h2 := h.2
  cases kj : kindOf P oj <;> cases ki : kindOf P oi <;> simp only [kj, ki] at h2 <;>
    first
      | exact .pureL kj
      | exact .pureR ki
      | exact .reads kj ki
      | exact .flagged kj ki (by simpa using h2)
      | contradiction
def hOpI (P : Program) (ops : Array Oper) (chk : Nat → List Nat) (i : Nat) (D : Mem) (M : Mem → Act → Heap → Prop) (a : Act) (H : Heap) : Prop :=
  ∃ o, ops[i]? = some o ∧ hOp P ops chk i o D M a H
theorem hRun_anti {chk : Nat → List Nat} {K : Act → Heap → Prop} (L : List Nat) : ∀ (E E' : Mem) (a : Act) (H : Heap), (∀ x ∈ E', x ∈ E) → hRun P ops chk K L E a H → hRun P ops chk K L E' a H :=
  fun E E' a H hE h => hRun_mono (fun _ _ h => h) L E E' a H hE h
theorem hRun_pull (hsel : Region.noSelect ops = true) {chk : Nat → List Nat} {K : Act → Heap → Prop} (i : Nat) (L2 : List Nat) : ∀ (L1 : List Nat) (D : Mem) (a : Act) (H : Heap),
    (∀ j ∈ L1, passB P ops chk j i = true) → hRun P ops chk K (L1 ++ i :: L2) D a H → hOpI P ops chk i D (hRun P ops chk K (L1 ++ L2)) a H
  | [], D, a, H, _, h => h
  | j :: L1, D, a, H, hp, ⟨oj, hoj, h⟩ => by
    have hns := Region.noSelect_spec hsel
    have ih := hRun_pull hsel (chk := chk) (K := K) i L2 L1
    have hp' : ∀ k ∈ L1, passB P ops chk k i = true := fun k hk => hp k (List.mem_cons_of_mem _ hk)
    cases hoi : ops[i]? with
    | none =>
      have := hp j List.mem_cons_self
      unfold passB at this
      simp [hoj, hoi] at this
    | some oi =>
      obtain ⟨hap, hc⟩ := passB_spec hoj hoi (hp j List.mem_cons_self)
      have h1 : hOp P ops chk j oj D (hOp P ops chk i oi · (hRun P ops chk K (L1 ++ L2))) a H := hOp_mono (fun _ h => h) (fun E E' a H hE hr => by
        obtain ⟨o, ho, h⟩ := ih E' a H hp' (hRun_anti _ E E' a H hE hr)
        have : o = oi := Option.some.inj (ho.symm.trans hoi)
        subst this
        exact h) h
      have h2 := hOp_swap hc hap (fun cs b => hns i oi cs b hoi) (fun cs b => hns j oj cs b hoj) (hRun_anti (L1 ++ L2)) h1
      exact ⟨oi, hoi, hOp_mono (fun _ h => h) (fun E E' a H hE hr => ⟨oj, hoj, hOp_mono hE (fun E E' a H hE hr => hRun_anti _ E E' a H hE hr) hr⟩) h2⟩
end
end Go.Cps
namespace Go.Cps
open Go
section
variable {P : Program} {ops : Array Oper}
def maskOf (ms : List Nat) (o : Oper) : Nat := o.after.toList.foldl (fun s e => if Region.binds .any e then s ||| 2 ^ e.on ||| ms.getD e.on 0 else s) 0
def masksFrom : List Oper → List Nat → List Nat
  | [], ms => ms
  | o :: r, ms => masksFrom r (ms ++ [maskOf ms o])
def masks (ops : Array Oper) : List Nat := masksFrom ops.toList []
inductive Waits (ops : Array Oper) : Nat → Nat → Prop
  | direct {i : Nat} {o : Oper} {e : Edge} (ho : ops[i]? = some o) (he : e ∈ o.after) (hb : Region.binds .any e = true) : Waits ops i e.on
  | step {i j : Nat} {o : Oper} {e : Edge} (ho : ops[i]? = some o) (he : e ∈ o.after) (hb : Region.binds .any e = true) (h : Waits ops e.on j) : Waits ops i j
theorem mask_fold (ms : List Nat) (i : Nat) (o : Oper) (ho : ops[i]? = some o) (hms : ∀ k j, (ms.getD k 0).testBit j = true → Waits ops k j) :
    ∀ (l : List Edge) (s : Nat), (∀ e ∈ l, e ∈ o.after) → (∀ j, s.testBit j = true → Waits ops i j) →
      ∀ j, (l.foldl (fun s e => if Region.binds .any e then s ||| 2 ^ e.on ||| ms.getD e.on 0 else s) s).testBit j = true → Waits ops i j
  | [], s, _, hs, j, h => hs j h
  | e :: l, s, hl, hs, j, h => by
    rw [List.foldl_cons] at h
    refine mask_fold ms i o ho hms l _ (fun x hx => hl x (List.mem_cons_of_mem _ hx)) (fun k hk => ?_) j h
    split at hk
    · rename_i hb
      rw [Nat.testBit_or, Nat.testBit_or, Bool.or_eq_true, Bool.or_eq_true] at hk
      rcases hk with (hk | hk) | hk
      · exact hs k hk
      · rw [Nat.testBit_two_pow] at hk
        have : e.on = k := by simpa using hk
        subst this
        exact .direct ho (hl e List.mem_cons_self) hb
      · exact .step ho (hl e List.mem_cons_self) hb (hms _ _ hk)
    · exact hs k hk
theorem masks_from : ∀ (l : List Oper) (ms : List Nat), (∀ k, l[k]? = ops[ms.length + k]?) → (∀ k j, (ms.getD k 0).testBit j = true → Waits ops k j) →
    ∀ k j, ((masksFrom l ms).getD k 0).testBit j = true → Waits ops k j
  | [], ms, _, hms, k, j, h => hms k j h
  | o :: l, ms, hl, hms, k, j, h => by
    have ho : ops[ms.length]? = some o := by simpa using (hl 0).symm
    refine masks_from l (ms ++ [maskOf ms o]) (fun k => by have := hl (k + 1); simpa [Nat.add_assoc, Nat.add_comm 1 k] using this) (fun k j h => ?_) k j h
    by_cases hk : k < ms.length
    · rw [List.getD_eq_getElem?_getD, List.getElem?_append_left hk, ← List.getD_eq_getElem?_getD] at h
      exact hms k j h
    · by_cases hk' : k = ms.length
      · subst hk'
        rw [List.getD_eq_getElem?_getD, List.getElem?_append_right (Nat.le_refl _), Nat.sub_self] at h
        simp only [List.getElem?_cons_zero, Option.getD_some] at h
        exact mask_fold ms _ o ho hms o.after.toList 0 (fun e he => by simpa using he) (fun j hj => by simp at hj) j h
      · rw [List.getD_eq_getElem?_getD, List.getElem?_eq_none (by simp; omega)] at h
        simp at h
theorem masks_spec {i j : Nat} (h : ((masks ops).getD i 0).testBit j = true) : Waits ops i j :=
  masks_from ops.toList [] (by simp) (by simp) i j h
def Closed (ops : Array Oper) (listed : Array Bool) : Prop :=
  ∀ j oj, ops[j]? = some oj → listed.getD j false = true → ∀ e ∈ oj.after, Region.binds .any e = true → listed.getD e.on false = true
theorem Waits.listed {listed : Array Bool} (hc : Closed ops listed) {i j : Nat} (h : Waits ops i j) : listed.getD i false = true → listed.getD j false = true := by
  induction h with
  | direct ho he hb => exact fun hi => hc _ _ ho hi _ he hb
  | step ho he hb _ ih => exact fun hi => ih (hc _ _ ho hi _ he hb)
theorem Waits.ready {listed : Array Bool} (hc : Closed ops listed) {i j : Nat} (h : Waits ops i j) (hi : i ∈ Region.ready .any ops listed) : listed.getD j false = true := by
  obtain ⟨_, o, ho, hall⟩ := mem_ready.1 hi
  cases h with
  | direct ho' he hb => exact hall _ (by rw [Option.some.inj (ho.symm.trans ho')]; exact he) hb
  | step ho' he hb h' => exact h'.listed hc (hall _ (by rw [Option.some.inj (ho.symm.trans ho')]; exact he) hb)
theorem Closed.set {listed : Array Bool} (hc : Closed ops listed) {i : Nat} (hi : i ∈ Region.ready .any ops listed) : Closed ops (listed.setIfInBounds i true) := by
  obtain ⟨_, oi, hoi, hall⟩ := mem_ready.1 hi
  intro j oj hj hl e he hb
  by_cases hij : i = j
  · subst hij
    have : oj = oi := Option.some.inj (hj.symm.trans hoi)
    subst this
    exact getD_set_true (hall e he hb)
  · rw [getD_set_ne false hij] at hl
    exact getD_set_true (hc j oj hj hl e he hb)
def waitsB (ops : Array Oper) (j i : Nat) : Bool := match ops[j]? with | some o => o.after.any fun e => Region.binds .any e && e.on == i | none => false
def Ordered (P : Program) (ops : Array Oper) (chk : Nat → List Nat) (L : List Nat) : Prop :=
  L.Pairwise fun j i => (passB P ops chk j i = true ∨ Waits ops i j) ∧ waitsB ops j i = false
theorem any_of_run (hsel : Region.noSelect ops = true) {chk : Nat → List Nat} {K : Act → Heap → Prop} {w₀ : World} {Q : Exit → Act → World → Prop} (hQ : ∀ a w, Same w₀ w → K a w.heap → Q .normal a w)
    (hself : ∀ i o, ops[i]? = some o → ∀ e ∈ o.after, Region.binds .any e = true → e.on ≠ i ∧ e.on < ops.size) :
    ∀ (fuel : Nat) (L : List Nat) (listed : Array Bool) (D : Mem) (a : Act) (w : World), L.length = fuel → L.Nodup → (∀ k, k ∈ L ↔ k < ops.size ∧ listed.getD k true = false) → listed.size = ops.size →
      Closed ops listed → Ordered P ops chk L → Same w₀ w → hRun P ops chk K L D a w.heap → wpAny P .any ops Q fuel listed a w := by
  intro fuel
  induction fuel with
  | zero =>
    intro L listed D a w hlen _ hL _ _ _ hs h
    have : L = [] := List.eq_nil_of_length_eq_zero hlen
    subst this
    refine ⟨?_, hQ a w hs h⟩
    cases hr : Region.ready .any ops listed with
    | nil => rfl
    | cons i r =>
      have hi : i ∈ Region.ready .any ops listed := by rw [hr]; exact List.mem_cons_self
      obtain ⟨h1, o, ho, _⟩ := mem_ready.1 hi
      have := (hL i).2 ⟨(Array.getElem?_eq_some_iff.1 ho).1, h1⟩
      simp at this
  | succ fuel ih =>
    intro L listed D a w hlen hnd hL hsz hcl hord hs h
    constructor
    · intro hr0
      exfalso
      cases L with
      | nil => simp at hlen
      | cons i r =>
        obtain ⟨hi1, hi2⟩ := (hL i).1 List.mem_cons_self
        have hmem : i ∈ Region.ready .any ops listed := by
          refine mem_ready.2 ⟨hi2, ops[i], by simp [hi1], fun e he hb => ?_⟩
          obtain ⟨hne, hlt⟩ := hself i ops[i] (by simp [hi1]) e he hb
          cases hl : listed.getD e.on false with
          | true => rfl
          | false =>
            have hl' : listed.getD e.on true = false := by
              have : e.on < listed.size := by omega
              simp [this] at hl ⊢
              exact hl
            have hin := (hL e.on).2 ⟨hlt, hl'⟩
            have hr : e.on ∈ r := by
              rcases List.mem_cons.1 hin with h | h
              · exact absurd h hne
              · exact h
            have := ((List.pairwise_cons.1 hord).1 _ hr).2
            unfold waitsB at this
            simp only [show ops[i]? = some ops[i] from by simp [hi1], Array.any_eq_false] at this
            obtain ⟨k, hk, hke⟩ := Array.getElem_of_mem he
            have h3 := this k hk
            rw [hke] at h3
            simp [hb] at h3
        rw [hr0] at hmem
        cases hmem
    · intro i hi
      obtain ⟨hi1, oi, hoi, hall⟩ := mem_ready.1 hi
      have hlt : i < ops.size := (Array.getElem?_eq_some_iff.1 hoi).1
      obtain ⟨L1, L2, rfl⟩ := List.append_of_mem ((hL i).2 ⟨hlt, hi1⟩)
      have hpass : ∀ j ∈ L1, passB P ops chk j i = true := fun j hj => by
        have h1 := ((List.pairwise_append.1 hord).2.2 j hj i List.mem_cons_self).1
        refine h1.resolve_right fun hw => ?_
        have h2 := hw.ready hcl hi
        have h3 := ((hL j).1 (List.mem_append_left _ hj)).2
        rw [show listed.getD j false = false from by
          rcases Nat.lt_or_ge j listed.size with h' | h'
          · simp [h'] at h3 ⊢; exact h3
          · simp [Array.getElem?_eq_none h'] at h3] at h2
        cases h2
      obtain ⟨o, ho, hop⟩ := hRun_pull hsel i L2 L1 D a w.heap hpass h
      have : o = oi := Option.some.inj (ho.symm.trans hoi)
      subst this
      have hsub : (L1 ++ L2).Sublist (L1 ++ i :: L2) := List.Sublist.append_left (List.sublist_cons_self _ _) _
      have next : ∀ (D' : Mem) (a' : Act) (w' : World), Same w₀ w' → hRun P ops chk K (L1 ++ L2) D' a' w'.heap → wpAny P .any ops Q fuel (listed.setIfInBounds i true) a' w' := fun D' a' w' hs' h' => by
        refine ih (L1 ++ L2) _ D' a' w' (by simp at hlen ⊢; omega) (hnd.sublist hsub) (fun k => ?_) (by simp [hsz]) (hcl.set hi) (List.Pairwise.sublist hsub hord) hs' h'
        have hk := hL k
        have hni : i ∉ L1 ++ L2 := by
          obtain ⟨_, hp2, hp3⟩ := List.pairwise_append.1 hnd
          intro hm
          rcases List.mem_append.1 hm with hm | hm
          · exact hp3 i hm i List.mem_cons_self rfl
          · exact (List.pairwise_cons.1 hp2).1 i hm rfl
        by_cases hik : i = k
        · subst hik
          constructor
          · exact fun h => absurd h hni
          · intro ⟨_, h⟩
            simp [hsz, hlt] at h
        · rw [getD_set_ne true hik, ← hk]
          simp only [List.mem_append, List.mem_cons]
          constructor
          · rintro (h | h)
            · exact .inl h
            · exact .inr (.inr h)
          · rintro (h | h | h)
            · exact .inl h
            · exact absurd h.symm hik
            · exact .inr h
      simp only [wpOp, hoi]
      unfold hOp hVal at hop
      split
      · rename_i hw
        simp only [hw, if_true] at hop
        refine .inl ?_
        split at hop
        · obtain ⟨v, h1, h2⟩ := hop
          unfold Oper.wp
          rw [pureV_sound (fun _ => rfl) h1 w]
          exact next D _ w hs h2
        · obtain ⟨v, h1, h2⟩ := hop
          unfold Oper.wp
          rw [readV_sound h1 w rfl]
          exact next _ _ w hs h2
        · exact wp_of_good (K := fun v H' => recheck chk D i H' ∧ hRun P ops chk K (L1 ++ L2) D (a.put o.dst v) H') hs (fun v w' hs' hK => next D _ w' hs' hK.2) (hop w rfl)
      · rename_i hw
        simp only [hw] at hop
        exact next D _ w hs hop
def pairsB (P : Program) (ops : Array Oper) (chk : Nat → List Nat) (ms : List Nat) : List Nat → Bool
  | [] => true
  | j :: r => r.all (fun i => ((ms.getD i 0).testBit j || passB P ops chk j i) && !waitsB ops j i) && pairsB P ops chk ms r
def nodupB : List Nat → Bool
  | [] => true
  | j :: r => !r.contains j && nodupB r
def selfB (ops : Array Oper) : Bool := ops.toList.zipIdx.all fun (o, i) => o.after.all fun e => !Region.binds .any e || (e.on != i && Nat.blt e.on ops.size)
def orderB (P : Program) (ops : Array Oper) (chk : Nat → List Nat) (L : List Nat) : Bool :=
  Region.noSelect ops && selfB ops && nodupB L && (L.length == ops.size) && (List.range ops.size).all L.contains && L.all (Nat.blt · ops.size) && pairsB P ops chk (masks ops) L
theorem pairsB_spec {chk : Nat → List Nat} : ∀ {L : List Nat}, pairsB P ops chk (masks ops) L = true → Ordered P ops chk L
  | [], _ => List.Pairwise.nil
  | j :: r, h => by
    simp only [pairsB, Bool.and_eq_true, List.all_eq_true, Bool.or_eq_true, Bool.not_eq_true'] at h
    refine List.pairwise_cons.2 ⟨fun i hi => ?_, pairsB_spec h.2⟩
    obtain ⟨h1, h2⟩ := h.1 i hi
    exact ⟨h1.elim (fun h => .inr (masks_spec h)) .inl, h2⟩
theorem nodupB_spec : ∀ {L : List Nat}, nodupB L = true → L.Nodup
  | [], _ => List.nodup_nil
  | j :: r, h => by
    simp only [nodupB, Bool.and_eq_true, Bool.not_eq_true'] at h
    exact List.nodup_cons.2 ⟨by simpa using h.1, nodupB_spec h.2⟩
theorem region_draw (hm : P.follows .mixedOrders = true) {chk : Nat → List Nat} {L : List Nat} (hB : orderB P ops chk L = true) {id : Nat} {K : Act → Heap → Prop} {Q : Exit → Act → World → Prop} {a : Act} {w₀ w : World}
    (hs : Same w₀ w) (hQ : ∀ a w, Same w₀ w → K a w.heap → Q .normal a w) (h : hRun P ops chk K L [] a w.heap) : (Code.region id ops true).wp P Q a w := by
  simp only [orderB, Bool.and_eq_true] at hB
  obtain ⟨⟨⟨⟨⟨⟨h1, h2⟩, h3⟩, h4⟩, h5⟩, h6⟩, h7⟩ := hB
  refine wp_region_any hm (any_of_run h1 hQ (fun i o ho e he hb => ?_) ops.size L _ [] a { w with drawn := w.drawn + 1 } (by simpa using h4) (nodupB_spec h3) (fun k => ?_) (by simp) (fun j oj _ hl => ?_) (pairsB_spec h7) (hs.trans ⟨rfl, rfl, rfl⟩) h)
  · have := List.all_eq_true.1 h2 (o, i) (by rw [List.mem_zipIdx_iff_getElem?]; simpa using ho)
    have := Array.all_eq_true_iff_forall_mem.1 this e he
    simp only [hb, Bool.not_true, Bool.false_or, Bool.and_eq_true, bne_iff_ne, ne_eq] at this
    exact ⟨this.1, by simpa [Nat.blt_eq] using this.2⟩
  · constructor
    · intro hk
      have : k < ops.size := by have := List.all_eq_true.1 h6 k hk; simpa [Nat.blt_eq] using this
      exact ⟨this, by simp [this]⟩
    · intro ⟨hk, _⟩
      have := List.all_eq_true.1 h5 k (List.mem_range.2 hk)
      simpa using this
  · exfalso
    rcases Nat.lt_or_ge j ops.size with h | h
    · simp [h] at hl
    · simp [h] at hl
theorem region_plain {id : Nat} {K : Act → Heap → Prop} {Q : Exit → Act → World → Prop} {a : Act} {w₀ w : World}
    (hs : Same w₀ w) (hQ : ∀ a w, Same w₀ w → K a w.heap → Q .normal a w) (h : hRun P ops (fun _ => []) K (List.range ops.size) [] a w.heap) : (Code.region id ops false).wp P Q a w :=
  wp_region (wpOps_of_hRun hQ _ _ _ _ hs h)
end
end Go.Cps
namespace Go.Cps
open Go
abbrev Env := List (Nat × Value)
def look : Env → Nat → Option Value
  | [], _ => none
  | (k, v) :: r, t => bif Nat.beq k t then some v else look r t
def lookD (ρ : Env) (t : Nat) : Value := (look ρ t).getD undef
def evE (ρ : Env) : Operand → Value
  | .tmp t => lookD ρ t
  | .const v => v
  | .global g => .pointer (some ⟨g, 0, none⟩)
  | .func f => .func (.func f) #[] #[]
def known (ρ : Env) : Operand → Bool
  | .tmp t => (look ρ t).isSome
  | _ => true
def Br (v : Value) (A B : Prop) : Prop := ∃ b : Bool, v = .bool b ∧ (b = true → A) ∧ (b = false → B)
def isSrc (ops : Array Oper) (i : Nat) : Bool := ops.toList.any fun o => match o.guard with | some (j, _) => Nat.beq j i | none => false
def recheckE (l : List Nat) (H : Heap) : Mem → Prop
  | [] => True
  | x :: r => bif l.contains x.1 then (x.2.1 H = some x.2.2 ∧ recheckE l H r) else recheckE l H r
def after (n : Nat) (ops : Array Oper) (i : Nat) (o : Oper) (M : Env → Heap → Prop) (ρ : Env) (v : Value) (H : Heap) : Prop :=
  match o.dst with
  | some d => bif Nat.blt d n then
      (bif isSrc ops i then Br v (M ((d, .bool true) :: ρ) H) (M ((d, .bool false) :: ρ) H) else M ((d, v) :: ρ) H) else False
  | none => M ρ H
def dRunOp (P : Program) (n : Nat) (ops : Array Oper) (chk : Nat → List Nat) (i : Nat) (o : Oper) (D : Mem) (M : Mem → Env → Heap → Prop) (ρ : Env) (H : Heap) : Prop :=
  bif o.op.operands.toList.all (known ρ) then
    match kindOf P o with
    | .pure => match o.op with
      | .move x | .assign x => after n ops i o (M D) ρ (evE ρ x) H
      | .makeFunc fn a b => after n ops i o (M D) ρ (.func fn (a.map (evE ρ)) (b.map (evE ρ))) H
      | _ => Get (pureV P (evE ρ) o) fun v => after n ops i o (M D) ρ v H
    | .read => Get (readV P (evE ρ) H o) fun v => after n ops i o (M ((i, fun H' => readV P (evE ρ) H' o, v) :: D)) ρ v H
    | .eff => effP P (evE ρ) o H fun v H' => match chk i with
      | [] => after n ops i o (M D) ρ v H'
      | l => recheckE l H' D ∧ after n ops i o (M D) ρ v H'
  else False
def dOp (P : Program) (n : Nat) (ops : Array Oper) (chk : Nat → List Nat) (i : Nat) (o : Oper) (D : Mem) (M : Mem → Env → Heap → Prop) (ρ : Env) (H : Heap) : Prop :=
  match o.guard with
  | none => dRunOp P n ops chk i o D M ρ H
  | some (j, want) => match (ops[j]?).bind (·.dst) with
    | some d => match look ρ d, want with
      | some (.bool true), true | some (.bool false), false => dRunOp P n ops chk i o D M ρ H
      | some (.bool true), false | some (.bool false), true | some (.tuple _), _ => match o.dst with
        | some e => bif Nat.blt e n then M D ((e, undef) :: ρ) H else False
        | none => M D ρ H
      | _, _ => False
    | none => False
def dRun (P : Program) (n : Nat) (ops : Array Oper) (chk : Nat → List Nat) (K : Env → Heap → Prop) : List Nat → Mem → Env → Heap → Prop
  | [], _, ρ, H => K ρ H
  | i :: r, D, ρ, H => match ops[i]? with
    | some o => dOp P n ops chk i o D (dRun P n ops chk K r) ρ H
    | none => False
def chkOf (P : Program) (ops : Array Oper) (i : Nat) : List Nat :=
  match ops[i]? with
  | some o => match kindOf P o with
    | .eff => (List.range ops.size).filter fun r => (match ops[r]? with | some o' => (match kindOf P o' with | .read => true | _ => false) | none => false) &&
        !((masks ops).getD i 0).testBit r && !((masks ops).getD r 0).testBit i
    | _ => []
  | none => []
def dRegion (P : Program) (n : Nat) (ops : Array Oper) (draw : Bool) (L : List Nat) (K : Env → Heap → Prop) (ρ : Env) (H : Heap) : Prop :=
  bif draw then (bif orderB P ops (chkOf P ops) L then dRun P n ops (chkOf P ops) K L [] ρ H else False)
  else dRun P n ops (fun _ => []) K (List.range ops.size) [] ρ H
inductive Plan where
  | leaf (order : List Nat)
  | seq (a b : Plan)
  | join (slots : List Nat) (a b : Plan)
  | cond (a b : Plan)
  | block (a : Plan)
  | loop (slots : List Nat) (a : Plan)
  | scope (a : Plan)
def opsDst (ops : Array Oper) : List Nat := ops.toList.filterMap (·.dst)
def written : Code → List Nat
  | .region _ ops _ => opsDst ops
  | .seq a b => written a ++ written b
  | .cond _ a b => written a ++ written b
  | .block _ a => written a
  | .loop a => written a
  | .scope a => written a
  | _ => []
def dropE (W : List Nat) (ρ : Env) : Env := ρ.filter fun x => !W.contains x.1
def nth (vs : List Value) (i : Nat) : Value := vs.getD i undef
def zipS : List Nat → Nat → List Value → Env
  | [], _, _ => []
  | s :: r, i, vs => (s, nth vs i) :: zipS r (i + 1) vs
def Join (A : (List Value → Heap → Prop) → Prop) (B : List Value → Heap → Prop) : Prop := ∃ J : List Value → Heap → Prop, A J ∧ ∀ vs H, J vs H → B vs H
def Loop (vs : List Value) (H : Heap) (body : (List Value → Heap → Prop) → List Value → Heap → Prop) : Prop :=
  ∃ I : Nat → List Value → Heap → Prop, (∃ n, I n vs H) ∧ ∀ n vs H, I n vs H → body (fun vs' H' => ∃ m, m < n ∧ I m vs' H') vs H
def givenS (sl : List Nat) (K : List Value → Heap → Prop) (ρ : Env) (H : Heap) : Prop := bif sl.all (fun s => (look ρ s).isSome) then K (sl.map (lookD ρ)) H else False
def den (P : Program) (n : Nat) : Plan → Code → (Exit → Env → Heap → Prop) → Env → Heap → Prop
  | .leaf L, c, Q, ρ, H => match c with
    | .region _ ops d => dRegion P n ops d L (Q .normal) ρ H
    | .skip => Q .normal ρ H
    | .ret => Q .ret ρ H
    | .exit id => Q (.exit id) ρ H
    | _ => False
  | .seq a b, c, Q, ρ, H => match c with
    | .seq x y => den P n a x (fun e ρ' H' => match e with
      | .normal => den P n b y Q ρ' H'
      | .ret => Q .ret ρ' H'
      | .exit id => Q (.exit id) ρ' H'
      | _ => False) ρ H
    | _ => False
  | .join sl a b, c, Q, ρ, H => match c with
    | .seq x y => bif sl.all (written x).contains then Join (fun K => den P n a x (fun e ρ' H' => match e with
      | .normal => givenS sl K ρ' H'
      | .ret => Q .ret ρ' H'
      | .exit id => Q (.exit id) ρ' H'
      | _ => False) ρ H) (fun vs H' => den P n b y Q (zipS sl 0 vs ++ dropE (written x) ρ) H') else False
    | _ => False
  | .cond a b, c, Q, ρ, H => match c with
    | .cond t x y => bif known ρ t then Br (evE ρ t) (den P n a x Q ρ H) (den P n b y Q ρ H) else False
    | _ => False
  | .block a, c, Q, ρ, H => match c with
    | .block id x => den P n a x (fun e ρ' H' => match e with
      | .normal => Q .normal ρ' H'
      | .ret => Q .ret ρ' H'
      | .exit id' => bif Nat.beq id' id then Q .normal ρ' H' else Q (.exit id') ρ' H'
      | _ => False) ρ H
    | _ => False
  | .loop sl a, c, Q, ρ, H => match c with
    | .loop x => bif sl.all (written x).contains then givenS sl (fun vs H => Loop vs H fun K vs' H' => den P n a x (fun e ρ' H'' => match e with
      | .normal => givenS sl K ρ' H''
      | .ret => Q .ret ρ' H''
      | .exit id => Q (.exit id) ρ' H''
      | _ => False) (zipS sl 0 vs' ++ dropE (written x) ρ) H') ρ H else False
    | _ => False
  | .scope a, c, Q, ρ, H => match c with
    | .scope x => den P n a x (fun e ρ' H' => match e with
      | .normal => Q .normal ρ' H'
      | .ret => Q .ret ρ' H'
      | .exit id => Q (.exit id) ρ' H'
      | _ => False) ρ H
    | _ => False
def resVals (P : Program) (ρ : Env) (H : Heap) : List ResultVar → (List Value → Prop) → Prop
  | [], K => K []
  | .tmp t :: r, K => bif (look ρ t).isSome then resVals P ρ H r (fun vs => K (lookD ρ t :: vs)) else False
  | .cell a t :: r, K => bif (look ρ a).isSome then (match aggSize P t with
    | some (n, true) => Get (loadNV n (lookD ρ a) H) fun v => resVals P ρ H r (fun vs => K (v :: vs))
    | some (_, false) => Get (load1V (lookD ρ a) H) fun v => resVals P ρ H r (fun vs => K (v :: vs))
    | none => False) else False
def one : List Value → Value
  | [v] => v
  | vs => .tuple vs.toArray
def retQ (P : Program) (res : List ResultVar) (R : Value → Heap → Prop) : Exit → Env → Heap → Prop := fun e ρ H => match e with
  | .normal | .ret => resVals P ρ H res fun vs => R (one vs) H
  | _ => False
def argEnv : Nat → List Value → Env
  | _, [] => []
  | i, v :: r => (i, v) :: argEnv (i + 1) r
end Go.Cps
