/-
  One order of a region serves every order that Go leaves open; and a region in its own order.
  Conditions: a check over the region's text, by the kernel.
-/
import Derived.Test.YtfajmapajpfocaaGreatDoorC6
set_option linter.all false
namespace Go.Cps
open Go
section
variable {P : Program} {ops : Array Oper}

def maskOf (ms : List Nat) (o : Oper) : Nat := o.after.toList.foldl (fun s e => if Region.binds .any e then s ||| 2 ^ e.on ||| ms.getD e.on 0 else s) 0
def masksFrom : List Oper → List Nat → List Nat
  | [], ms => ms
  | o :: r, ms => masksFrom r (ms ++ [maskOf ms o])
def masks (ops : Array Oper) : List Nat := masksFrom ops.toList []

/-- i waits for j -/
inductive Waits (ops : Array Oper) : Nat → Nat → Prop
  | direct {i : Nat} {o : Oper} {e : Edge} (ho : ops[i]? = some o) (he : e ∈ o.after) (hb : Region.binds .any e = true) : Waits ops i e.on
  | step {i j : Nat} {o : Oper} {e : Edge} (ho : ops[i]? = some o) (he : e ∈ o.after) (hb : Region.binds .any e = true) (h : Waits ops e.on j) : Waits ops i j

theorem mask_fold (ms : List Nat) (i : Nat) (o : Oper) (ho : ops[i]? = some o) (hms : ∀ k j, (ms.getD k 0).testBit j = true → Waits ops k j) :
    ∀ (l : List Edge) (s : Nat), (∀ e ∈ l, e ∈ o.after) → (∀ j, s.testBit j = true → Waits ops i j) →
      ∀ j, (l.foldl (fun s e => if Region.binds .any e then s ||| 2 ^ e.on ||| ms.getD e.on 0 else s) s).testBit j = true → Waits ops i j
  | [], s, _, hs, j, h => hs j h
  | e :: l, s, hl, hs, j, h => by
    rw [List.foldl_cons] at h
    refine mask_fold ms i o ho hms l _ (fun x hx => hl x (List.mem_cons_of_mem _ hx)) (fun k hk => ?_) j h
    split at hk
    · rename_i hb
      rw [Nat.testBit_or, Nat.testBit_or, Bool.or_eq_true, Bool.or_eq_true] at hk
      rcases hk with (hk | hk) | hk
      · exact hs k hk
      · rw [Nat.testBit_two_pow] at hk
        have : e.on = k := by simpa using hk
        subst this
        exact .direct ho (hl e List.mem_cons_self) hb
      · exact .step ho (hl e List.mem_cons_self) hb (hms _ _ hk)
    · exact hs k hk

theorem masks_from : ∀ (l : List Oper) (ms : List Nat), (∀ k, l[k]? = ops[ms.length + k]?) → (∀ k j, (ms.getD k 0).testBit j = true → Waits ops k j) →
    ∀ k j, ((masksFrom l ms).getD k 0).testBit j = true → Waits ops k j
  | [], ms, _, hms, k, j, h => hms k j h
  | o :: l, ms, hl, hms, k, j, h => by
    have ho : ops[ms.length]? = some o := by simpa using (hl 0).symm
    refine masks_from l (ms ++ [maskOf ms o]) (fun k => by have := hl (k + 1); simpa [Nat.add_assoc, Nat.add_comm 1 k] using this) (fun k j h => ?_) k j h
    by_cases hk : k < ms.length
    · rw [List.getD_eq_getElem?_getD, List.getElem?_append_left hk, ← List.getD_eq_getElem?_getD] at h
      exact hms k j h
    · by_cases hk' : k = ms.length
      · subst hk'
        rw [List.getD_eq_getElem?_getD, List.getElem?_append_right (Nat.le_refl _), Nat.sub_self] at h
        simp only [List.getElem?_cons_zero, Option.getD_some] at h
        exact mask_fold ms _ o ho hms o.after.toList 0 (fun e he => by simpa using he) (fun j hj => by simp at hj) j h
      · rw [List.getD_eq_getElem?_getD, List.getElem?_eq_none (by simp; omega)] at h
        simp at h

theorem masks_spec {i j : Nat} (h : ((masks ops).getD i 0).testBit j = true) : Waits ops i j :=
  masks_from ops.toList [] (by simp) (by simp) i j h

def Closed (ops : Array Oper) (listed : Array Bool) : Prop :=
  ∀ j oj, ops[j]? = some oj → listed.getD j false = true → ∀ e ∈ oj.after, Region.binds .any e = true → listed.getD e.on false = true

theorem Waits.listed {listed : Array Bool} (hc : Closed ops listed) {i j : Nat} (h : Waits ops i j) : listed.getD i false = true → listed.getD j false = true := by
  induction h with
  | direct ho he hb => exact fun hi => hc _ _ ho hi _ he hb
  | step ho he hb _ ih => exact fun hi => ih (hc _ _ ho hi _ he hb)

theorem Waits.ready {listed : Array Bool} (hc : Closed ops listed) {i j : Nat} (h : Waits ops i j) (hi : i ∈ Region.ready .any ops listed) : listed.getD j false = true := by
  obtain ⟨_, o, ho, hall⟩ := mem_ready.1 hi
  cases h with
  | direct ho' he hb => exact hall _ (by rw [Option.some.inj (ho.symm.trans ho')]; exact he) hb
  | step ho' he hb h' => exact h'.listed hc (hall _ (by rw [Option.some.inj (ho.symm.trans ho')]; exact he) hb)

theorem Closed.set {listed : Array Bool} (hc : Closed ops listed) {i : Nat} (hi : i ∈ Region.ready .any ops listed) : Closed ops (listed.setIfInBounds i true) := by
  obtain ⟨_, oi, hoi, hall⟩ := mem_ready.1 hi
  intro j oj hj hl e he hb
  by_cases hij : i = j
  · subst hij
    have : oj = oi := Option.some.inj (hj.symm.trans hoi)
    subst this
    exact getD_set_true (hall e he hb)
  · rw [getD_set_ne false hij] at hl
    exact getD_set_true (hc j oj hj hl e he hb)

def waitsB (ops : Array Oper) (j i : Nat) : Bool := match ops[j]? with | some o => o.after.any fun e => Region.binds .any e && e.on == i | none => false
def Ordered (P : Program) (ops : Array Oper) (chk : Nat → List Nat) (L : List Nat) : Prop :=
  L.Pairwise fun j i => (passB P ops chk j i = true ∨ Waits ops i j) ∧ waitsB ops j i = false

theorem any_of_run (hsel : Region.noSelect ops = true) {chk : Nat → List Nat} {K : Act → Heap → Prop} {w₀ : World} {Q : Exit → Act → World → Prop} (hQ : ∀ a w, Same w₀ w → K a w.heap → Q .normal a w)
    (hself : ∀ i o, ops[i]? = some o → ∀ e ∈ o.after, Region.binds .any e = true → e.on ≠ i ∧ e.on < ops.size) :
    ∀ (fuel : Nat) (L : List Nat) (listed : Array Bool) (D : Mem) (a : Act) (w : World), L.length = fuel → L.Nodup → (∀ k, k ∈ L ↔ k < ops.size ∧ listed.getD k true = false) → listed.size = ops.size →
      Closed ops listed → Ordered P ops chk L → Same w₀ w → hRun P ops chk K L D a w.heap → wpAny P .any ops Q fuel listed a w := by
  intro fuel
  induction fuel with
  | zero =>
    intro L listed D a w hlen _ hL _ _ _ hs h
    have : L = [] := List.eq_nil_of_length_eq_zero hlen
    subst this
    refine ⟨?_, hQ a w hs h⟩
    cases hr : Region.ready .any ops listed with
    | nil => rfl
    | cons i r =>
      have hi : i ∈ Region.ready .any ops listed := by rw [hr]; exact List.mem_cons_self
      obtain ⟨h1, o, ho, _⟩ := mem_ready.1 hi
      have := (hL i).2 ⟨(Array.getElem?_eq_some_iff.1 ho).1, h1⟩
      simp at this
  | succ fuel ih =>
    intro L listed D a w hlen hnd hL hsz hcl hord hs h
    constructor
    · intro hr0
      exfalso
      cases L with
      | nil => simp at hlen
      | cons i r =>
        obtain ⟨hi1, hi2⟩ := (hL i).1 List.mem_cons_self
        have hmem : i ∈ Region.ready .any ops listed := by
          refine mem_ready.2 ⟨hi2, ops[i], by simp [hi1], fun e he hb => ?_⟩
          obtain ⟨hne, hlt⟩ := hself i ops[i] (by simp [hi1]) e he hb
          cases hl : listed.getD e.on false with
          | true => rfl
          | false =>
            have hl' : listed.getD e.on true = false := by
              have : e.on < listed.size := by omega
              simp [this] at hl ⊢
              exact hl
            have hin := (hL e.on).2 ⟨hlt, hl'⟩
            have hr : e.on ∈ r := by
              rcases List.mem_cons.1 hin with h | h
              · exact absurd h hne
              · exact h
            have := ((List.pairwise_cons.1 hord).1 _ hr).2
            unfold waitsB at this
            simp only [show ops[i]? = some ops[i] from by simp [hi1], Array.any_eq_false] at this
            obtain ⟨k, hk, hke⟩ := Array.getElem_of_mem he
            have h3 := this k hk
            rw [hke] at h3
            simp [hb] at h3
        rw [hr0] at hmem
        cases hmem
    · intro i hi
      obtain ⟨hi1, oi, hoi, hall⟩ := mem_ready.1 hi
      have hlt : i < ops.size := (Array.getElem?_eq_some_iff.1 hoi).1
      obtain ⟨L1, L2, rfl⟩ := List.append_of_mem ((hL i).2 ⟨hlt, hi1⟩)
      have hpass : ∀ j ∈ L1, passB P ops chk j i = true := fun j hj => by
        have h1 := ((List.pairwise_append.1 hord).2.2 j hj i List.mem_cons_self).1
        refine h1.resolve_right fun hw => ?_
        have h2 := hw.ready hcl hi
        have h3 := ((hL j).1 (List.mem_append_left _ hj)).2
        rw [show listed.getD j false = false from by
          rcases Nat.lt_or_ge j listed.size with h' | h'
          · simp [h'] at h3 ⊢; exact h3
          · simp [Array.getElem?_eq_none h'] at h3] at h2
        cases h2
      obtain ⟨o, ho, hop⟩ := hRun_pull hsel i L2 L1 D a w.heap hpass h
      have : o = oi := Option.some.inj (ho.symm.trans hoi)
      subst this
      have hsub : (L1 ++ L2).Sublist (L1 ++ i :: L2) := List.Sublist.append_left (List.sublist_cons_self _ _) _
      have next : ∀ (D' : Mem) (a' : Act) (w' : World), Same w₀ w' → hRun P ops chk K (L1 ++ L2) D' a' w'.heap → wpAny P .any ops Q fuel (listed.setIfInBounds i true) a' w' := fun D' a' w' hs' h' => by
        refine ih (L1 ++ L2) _ D' a' w' (by simp at hlen ⊢; omega) (hnd.sublist hsub) (fun k => ?_) (by simp [hsz]) (hcl.set hi) (List.Pairwise.sublist hsub hord) hs' h'
        have hk := hL k
        have hni : i ∉ L1 ++ L2 := by
          obtain ⟨_, hp2, hp3⟩ := List.pairwise_append.1 hnd
          intro hm
          rcases List.mem_append.1 hm with hm | hm
          · exact hp3 i hm i List.mem_cons_self rfl
          · exact (List.pairwise_cons.1 hp2).1 i hm rfl
        by_cases hik : i = k
        · subst hik
          constructor
          · exact fun h => absurd h hni
          · intro ⟨_, h⟩
            simp [hsz, hlt] at h
        · rw [getD_set_ne true hik, ← hk]
          simp only [List.mem_append, List.mem_cons]
          constructor
          · rintro (h | h)
            · exact .inl h
            · exact .inr (.inr h)
          · rintro (h | h | h)
            · exact .inl h
            · exact absurd h.symm hik
            · exact .inr h
      simp only [wpOp, hoi]
      unfold hOp hVal at hop
      split
      · rename_i hw
        simp only [hw, if_true] at hop
        refine .inl ?_
        split at hop
        · obtain ⟨v, h1, h2⟩ := hop
          unfold Oper.wp
          rw [pureV_sound (fun _ => rfl) h1 w]
          exact next D _ w hs h2
        · obtain ⟨v, h1, h2⟩ := hop
          unfold Oper.wp
          rw [readV_sound h1 w rfl]
          exact next _ _ w hs h2
        · exact wp_of_good (K := fun v H' => recheck chk D i H' ∧ hRun P ops chk K (L1 ++ L2) D (a.put o.dst v) H') hs (fun v w' hs' hK => next D _ w' hs' hK.2) (hop w rfl)
      · rename_i hw
        simp only [hw] at hop
        exact next D _ w hs hop

/-- the kernel's check of an order -/
def pairsB (P : Program) (ops : Array Oper) (chk : Nat → List Nat) (ms : List Nat) : List Nat → Bool
  | [] => true
  | j :: r => r.all (fun i => ((ms.getD i 0).testBit j || passB P ops chk j i) && !waitsB ops j i) && pairsB P ops chk ms r
def nodupB : List Nat → Bool
  | [] => true
  | j :: r => !r.contains j && nodupB r
def selfB (ops : Array Oper) : Bool := ops.toList.zipIdx.all fun (o, i) => o.after.all fun e => !Region.binds .any e || (e.on != i && Nat.blt e.on ops.size)
def orderB (P : Program) (ops : Array Oper) (chk : Nat → List Nat) (L : List Nat) : Bool :=
  Region.noSelect ops && selfB ops && nodupB L && (L.length == ops.size) && (List.range ops.size).all L.contains && L.all (Nat.blt · ops.size) && pairsB P ops chk (masks ops) L

theorem pairsB_spec {chk : Nat → List Nat} : ∀ {L : List Nat}, pairsB P ops chk (masks ops) L = true → Ordered P ops chk L
  | [], _ => List.Pairwise.nil
  | j :: r, h => by
    simp only [pairsB, Bool.and_eq_true, List.all_eq_true, Bool.or_eq_true, Bool.not_eq_true'] at h
    refine List.pairwise_cons.2 ⟨fun i hi => ?_, pairsB_spec h.2⟩
    obtain ⟨h1, h2⟩ := h.1 i hi
    exact ⟨h1.elim (fun h => .inr (masks_spec h)) .inl, h2⟩
theorem nodupB_spec : ∀ {L : List Nat}, nodupB L = true → L.Nodup
  | [], _ => List.nodup_nil
  | j :: r, h => by
    simp only [nodupB, Bool.and_eq_true, Bool.not_eq_true'] at h
    exact List.nodup_cons.2 ⟨by simpa using h.1, nodupB_spec h.2⟩

theorem region_draw (hm : P.follows .mixedOrders = true) {chk : Nat → List Nat} {L : List Nat} (hB : orderB P ops chk L = true) {id : Nat} {K : Act → Heap → Prop} {Q : Exit → Act → World → Prop} {a : Act} {w₀ w : World}
    (hs : Same w₀ w) (hQ : ∀ a w, Same w₀ w → K a w.heap → Q .normal a w) (h : hRun P ops chk K L [] a w.heap) : (Code.region id ops true).wp P Q a w := by
  simp only [orderB, Bool.and_eq_true] at hB
  obtain ⟨⟨⟨⟨⟨⟨h1, h2⟩, h3⟩, h4⟩, h5⟩, h6⟩, h7⟩ := hB
  refine wp_region_any hm (any_of_run h1 hQ (fun i o ho e he hb => ?_) ops.size L _ [] a { w with drawn := w.drawn + 1 } (by simpa using h4) (nodupB_spec h3) (fun k => ?_) (by simp) (fun j oj _ hl => ?_) (pairsB_spec h7) (hs.trans ⟨rfl, rfl, rfl⟩) h)
  · have := List.all_eq_true.1 h2 (o, i) (by rw [List.mem_zipIdx_iff_getElem?]; simpa using ho)
    have := Array.all_eq_true_iff_forall_mem.1 this e he
    simp only [hb, Bool.not_true, Bool.false_or, Bool.and_eq_true, bne_iff_ne, ne_eq] at this
    exact ⟨this.1, by simpa [Nat.blt_eq] using this.2⟩
  · constructor
    · intro hk
      have : k < ops.size := by have := List.all_eq_true.1 h6 k hk; simpa [Nat.blt_eq] using this
      exact ⟨this, by simp [this]⟩
    · intro ⟨hk, _⟩
      have := List.all_eq_true.1 h5 k (List.mem_range.2 hk)
      simpa using this
  · exfalso
    rcases Nat.lt_or_ge j ops.size with h | h
    · simp [h] at hl
    · simp [h] at hl

theorem region_plain {id : Nat} {K : Act → Heap → Prop} {Q : Exit → Act → World → Prop} {a : Act} {w₀ w : World}
    (hs : Same w₀ w) (hQ : ∀ a w, Same w₀ w → K a w.heap → Q .normal a w) (h : hRun P ops (fun _ => []) K (List.range ops.size) [] a w.heap) : (Code.region id ops false).wp P Q a w :=
  wp_region (wpOps_of_hRun hQ _ _ _ _ hs h)
end
end Go.Cps
