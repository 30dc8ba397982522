/-
  A part of the proof (its texts: C3, C4): each text says below what it proves.
  Conditions: each contract's own.
-/
import Derived.Test.YtfajmapajpfocaaGreatDoorB1
set_option linter.all false
/-
  Operations that touch no memory, and loads, run as they are told.
  Conditions: none.
-/
namespace Go.Cps
open Go
section
variable {P : Program} {ev : Operand → Value} {o : Oper} {v : Value}

theorem arith_sound {op : BinOp} {k : IntKind} {t : TypeId} {x y : Value} {a b : Operand} (hs : isShift op = false) (h : arithV op k x y = some v) (w : World) :
    (do eqGuard op t a b x y; binOp op t x y : Sem Value).run P w = .ok v w := by
  unfold arithV at h
  split at h <;> try contradiction
  rename_i k1 m k2 n
  split at h <;> try contradiction
  rename_i hk
  obtain ⟨rfl, rfl⟩ := hk
  cases op <;> simp [isShift] at hs <;> simp only [] at h
  all_goals (try (split at h <;> try contradiction))
  all_goals (cases h)
  all_goals (simp [eqGuard, binOp, Op.intArith, Op.intDiv, Op.intBits, Op.intCmp, *])

theorem shift_sound {op : BinOp} {k : IntKind} {t : TypeId} {x y : Value} {a b : Operand} (h : shiftV op k x y = some v) (w : World) :
    (do eqGuard op t a b x y; binOp op t x y : Sem Value).run P w = .ok v w := by
  unfold shiftV at h
  split at h <;> try contradiction
  rename_i k1 m k2 n
  split at h <;> try contradiction
  rename_i hk
  obtain ⟨rfl, hn⟩ := hk
  have : ¬ n < 0 := by omega
  cases op <;> simp only [] at h <;> try contradiction
  all_goals (cases h)
  all_goals (simp [eqGuard, binOp, Op.shift, this])

theorem str_sound {op : BinOp} {t : TypeId} {x y : Value} {a b : Operand} (h : strV op x y = some v) (w : World) :
    (do eqGuard op t a b x y; binOp op t x y : Sem Value).run P w = .ok v w := by
  unfold strV at h
  split at h <;> try contradiction
  rename_i s u
  cases op <;> simp only [] at h <;> try contradiction
  case add =>
    split at h <;> try contradiction
    rename_i hle
    cases h
    have : ¬ ((s.size + u.size : Nat) : Int) > IntKind.i64.max := by
      have : IntKind.i64.max = 9223372036854775807 := rfl
      omega
    simp only [eqGuard, binOp, Op.stringOp, this, if_false]
    simp
  all_goals (cases h; simp [eqGuard, binOp, Op.stringOp])

theorem boolEq_sound {op : BinOp} {t : TypeId} {x y : Value} {a b : Operand} (ht : P.underlying t = some .bool) (h : boolEqV op x y = some v) (w : World) :
    (do eqGuard op t a b x y; binOp op t x y : Sem Value).run P w = .ok v w := by
  unfold boolEqV at h
  split at h <;> try contradiction
  all_goals
    rename_i x y
    cases h
    have e : (Op.equal t (.bool x) (.bool y)).run P w = .ok (x == y) w := equalIn_bool x y 9999 ht w
    simp only [eqGuard, binOp, Sem.run_bind]
    simp [bne, e]

theorem bin_sound {op : BinOp} {t : TypeId} {x y : Operand} (hev : ∀ c, ev (.const c) = c) (h : binV P op t ev x y = some v) (w : World) :
    (do eqGuard op t x y (ev x) (ev y); binOp op t (ev x) (ev y) : Sem Value).run P w = .ok v w := by
  unfold binV at h
  generalize hr : binRes P op t x y = r at h
  unfold binRes at hr
  split at hr
  · rename_i c hc
    subst hr
    split at hc <;> try contradiction
    rename_i he
    have hy := nilConst_ev hc
    subst hy
    rw [hev]
    exact (nil_sound (P := P) he hc h w).1
  · split at hr
    · rename_i c hc
      subst hr
      split at hc <;> try contradiction
      rename_i he
      have hy := nilConst_ev hc
      subst hy
      rw [hev]
      exact (nil_sound (P := P) he hc h w).2
    · split at hr
      · rename_i k ht
        split at hr
        · subst hr; exact shift_sound h w
        · rename_i hs; subst hr; exact arith_sound (by simpa using hs) h w
      · subst hr; exact str_sound h w
      · rename_i ht; subst hr; exact boolEq_sound ht h w
      · subst hr; simp at h

theorem places_run : ∀ (fs : List Field) (l : List (Nat × Nat)), (fs.mapM fun f => (P.info? f.type).map fun i => (f.offset, i.size)) = some l →
    ∀ w, (fs.mapM (m := Sem) fun f => Prod.mk f.offset <$> sizeOf f.type).run P w = .ok l w
  | [], l, h, w => by simp at h; subst h; rfl
  | f :: fs, l, h, w => by
    rw [List.mapM_cons] at h
    cases hi : P.info? f.type with
    | none => simp [hi] at h
    | some i =>
      cases hm : (fs.mapM fun f => (P.info? f.type).map fun i => (f.offset, i.size)) with
      | none => simp [hi, hm] at h
      | some l' =>
        simp [hi, hm] at h
        subst h
        simp [List.mapM_cons, run_sizeOf' hi, places_run fs l' hm w]

theorem nilAhead_run {P : Program} {t : TypeId} {w : Value} {name : String} (h : aheadP P t w name = true) (W : World) : (nilAhead (P.types.size + Made.depth) t w name).run P W = .ok (some false) W := by
  unfold aheadP at h
  split at h <;> try contradiction
  rename_i i hi
  split at h <;> try contradiction
  rename_i m hm
  split at h <;> try contradiction
  · rename_i hpath hf
    have hp : 0 < P.types.size := by simpa using h
    obtain ⟨n, hn⟩ : ∃ n, P.types.size + Made.depth = n + 1 := ⟨P.types.size + Made.depth - 1, by omega⟩
    rw [hn, nilAhead]
    simp [Sem.run_bind, typeInfo, hi, hm, hpath, followBlind, hf]
  · rename_i hpath hf
    split at h <;> try contradiction
    all_goals
      rename_i hu
      have hp : 0 < P.types.size := by simpa using h
      obtain ⟨n, hn⟩ : ∃ n, P.types.size + Made.depth = n + 1 := ⟨P.types.size + Made.depth - 1, by omega⟩
      rw [hn, nilAhead]
      simp [Sem.run_bind, typeInfo, hi, hm, hpath, followBlind, hf, run_underlying' hu]

theorem pureV_sound (hev : ∀ c, ev (.const c) = c) (h : pureV P ev o = some v) (w : World) : (execOp ev o).run P w = .ok (.value v) w := by
  obtain ⟨dst, op, type, pos, after, guard⟩ := o
  unfold execOp
  cases op <;> simp only [pureV] at h <;> try contradiction
  case move x => cases h; rfl
  case assign x => cases h; rfl
  case pick c a b =>
    unfold pickV at h
    split at h <;> try contradiction
    rename_i t hc
    cases h
    simp [hc, asBool]
  case nilCheck x =>
    unfold nilVP at h
    split at h <;> try contradiction
    · rename_i hx; cases h; simp only [hx]; rfl
    · rename_i hx; cases h; simp only [hx]; rfl
    · rename_i hx; cases h; simp only [hx]; rfl
    · rename_i name fx fy hx
      split at h <;> try contradiction
      rename_i t w' hx0
      split at h <;> try contradiction
      rename_i ha
      cases h
      have hn := nilAhead_run (P := P) ha w
      simp only [hx, hx0, Sem.run_bind, program, Sem.run, Result.andThen_ok, hn]
      rfl
  case unOp op t x =>
    refine run_v _ _ _ ?_
    unfold unV at h
    split at h <;> try contradiction
    all_goals (rename_i hx; cases h; simp [Op.unary, hx, Op.intArith, Op.intBits])
  case fieldAddr s x f =>
    refine run_v _ _ _ ?_
    split at h <;> try contradiction
    rename_i off size ag hf
    split at h <;> try contradiction
    rename_i hsz
    obtain ⟨fs, fd, hs, hfd, rfl, hag⟩ := fieldRes_spec hf
    obtain ⟨i, hi, rfl, _⟩ := aggSize_spec hag
    unfold fieldAddrV at h
    split at h <;> try contradiction
    rename_i a hx
    cases h
    simp [Instr.fieldAt, run_underlying' hs, hfd, hx, Instr.sureAddr, fieldPlace, run_sizeOf' hi, hsz]
  case field s x f =>
    refine run_v _ _ _ ?_
    split at h <;> try contradiction
    all_goals
      rename_i hf
      obtain ⟨fs, fd, hs, hfd, rfl, hag⟩ := fieldRes_spec hf
      obtain ⟨i, hi, rfl, hr⟩ := aggSize_spec hag
    · unfold fieldAggV at h
      split at h <;> try contradiction
      rename_i cs hx
      cases h
      simp [Instr.field, run_underlying' hs, hfd, hx, asAgg, part, hr, run_sizeOf' hi]
    · unfold fieldOneV at h
      split at h <;> try contradiction
      rename_i cs hx
      simp [Instr.field, run_underlying' hs, hfd, hx, asAgg, part, hr, h]
  case indexAddr t x i =>
    refine run_v _ _ _ ?_
    split at h <;> try contradiction
    · rename_i e ht
      split at h <;> try contradiction
      rename_i i' hi
      unfold elemAddrV at h
      split at h <;> try contradiction
      rename_i a len cap k n hx hn
      split at h <;> try contradiction
      rename_i hc
      cases h
      simp [Instr.indexAt, run_underlying' ht, hx, hn, asIntOf, hc, run_sizeOf' hi]
    · rename_i m e ht
      split at h <;> try contradiction
      rename_i hm
      split at h <;> try contradiction
      rename_i i' hi
      unfold arrAddrV at h
      split at h <;> try contradiction
      rename_i a k n hx hn
      split at h <;> try contradiction
      rename_i hc
      cases h
      simp [Instr.indexAt, run_underlying' ht, hx, hn, asIntOf, hc, run_sizeOf' hi, Instr.sureAddr]
  case index t x i =>
    refine run_v _ _ _ ?_
    split at h <;> try contradiction
    rename_i ht
    unfold strIndexV at h
    split at h <;> try contradiction
    rename_i s k n hx hn
    split at h <;> try contradiction
    rename_i b hb
    cases h
    simp only [Instr.index, Sem.run_bind, hn, asIntOf, Sem.run_pure, Result.andThen_ok, run_underlying' ht, hx, hb]
  case extract x i =>
    refine run_v _ _ _ ?_
    unfold extractV at h
    split at h <;> try contradiction
    rename_i vs hx
    simp [Instr.extract, hx, h]
  case slice t x lo hi mx =>
    refine run_v _ _ _ ?_
    split at h <;> try contradiction
    · rename_i ht
      split at h <;> try contradiction
      rename_i hmx
      have hmx' : mx = none := by simpa using hmx
      subst hmx'
      unfold strSliceV at h
      split at h <;> try contradiction
      rename_i s hx
      split at h <;> try contradiction
      rename_i l hh m hb
      cases h
      simp [Instr.sliceAt, Instr.slice, run_underlying' ht, hx, bounds_sound (P := P) (mx := none) rfl hb]
    · rename_i e ht
      split at h <;> try contradiction
      rename_i i' hi'
      split at h <;> try contradiction
      rename_i hmx
      unfold sliceV at h
      split at h <;> try contradiction
      rename_i a len cap hx
      split at h <;> try contradiction
      rename_i l hh m hb
      cases h
      have hm2 : ((mx.map ev).isSome && (hi.map ev).isNone) = false := by cases mx <;> cases hi <;> simp_all
      simp [Instr.sliceAt, Instr.slice, run_underlying' ht, hx, bounds_sound (P := P) hm2 hb, run_sizeOf' hi']
    · rename_i n e ht
      split at h <;> try contradiction
      rename_i i' hi'
      split at h <;> try contradiction
      rename_i hmx
      unfold arrSliceV at h
      split at h <;> try contradiction
      rename_i a hx
      split at h <;> try contradiction
      rename_i l hh m hb
      cases h
      have hm2 : ((mx.map ev).isSome && (hi.map ev).isNone) = false := by cases mx <;> cases hi <;> simp_all
      simp [Instr.sliceAt, run_underlying' ht, hx, Instr.sureAddr, bounds_sound (P := P) hm2 hb, run_sizeOf' hi']
  case makeInterface t x =>
    refine run_v _ _ _ ?_
    split at h <;> try contradiction
    rename_i hi
    cases h
    cases hd : P.underlying t with
    | none => simp [isIfaceT, hd] at hi
    | some d =>
      simp only [isIfaceT, hd] at hi
      simp only [Instr.makeInterface, Sem.run_bind, run_underlying' hd, Result.andThen_ok]
      cases d <;> first | rfl | (simp at hi; done)
  case makeFunc fn a b => cases h; rfl
  case binOp op t x y yt => exact run_v _ _ _ (bin_sound hev h w)
  case build t parts =>
    refine run_v _ _ _ ?_
    split at h <;> try contradiction
    rename_i places zero hb
    unfold buildRes at hb
    split at hb <;> try contradiction
    rename_i fs z ht hz
    cases hm : (fs.toList.mapM fun f => (P.info? f.type).map fun i => (f.offset, i.size)) with
    | none => simp [hm] at hb
    | some l =>
      simp only [hm, Option.map_some, Option.some.injEq, Prod.mk.injEq] at hb
      obtain ⟨rfl, rfl⟩ := hb
      cases hi : P.info? t with
      | none => simp [hi] at hz
      | some i =>
        simp only [hi, Option.bind_some] at hz
        cases hf : fillV l.toArray z.cells (parts.toList.map fun p => (p.1, ev p.2)) with
        | none => simp [hf] at h
        | some cs =>
          simp only [hf, Option.map_some, Option.some.injEq] at h
          subst h
          have hzv : ∀ w, (zeroValue t).run P w = .ok z w := fun w => by simp [zeroValue, run_typeInfo' hi, hz]
          have hpl := places_run (P := P) fs.toList l hm
          have hpa : ∀ w, (fs.mapM (m := Sem) fun f => Prod.mk f.offset <$> sizeOf f.type).run P w = .ok l.toArray w := fun w => by
            rw [Array.mapM_eq_mapM_toList]
            simp [hpl]
          unfold fillV at hf
          simp only [Instr.build, Sem.run_bind, hzv, run_underlying' ht, Result.andThen_ok, bind_pure_comp, hpa, Array.toList_map, hf]
          rfl
  case convert s d x =>
    refine run_v _ _ _ ?_
    split at h <;> try contradiction
    all_goals (rename_i hc; unfold convRes at hc; split at hc <;> try contradiction)
    all_goals (try (split at hc <;> try contradiction))
    · rename_i hs hd
      cases hc
      unfold intConvV at h
      split at h <;> try contradiction
      rename_i hx
      cases h
      simp [convert, run_underlying' hs, run_underlying' hd, hx, Conv.intToInt]
    · rename_i hs hd
      unfold sameStrV at h
      split at h <;> try contradiction
      rename_i hx
      cases h
      simp [convert, run_underlying' hs, run_underlying' hd, hx]
  case call c =>
    obtain ⟨callee, args, argTypes⟩ := c
    cases callee <;> simp only [] at h <;> try contradiction
    rename_i b
    have hb : ∀ (bx : Value), (∀ cs, (builtin b argTypes type cs (args.map ev)).run P w = .ok (.value bx) w) → bx = v →
        (do let d ← resolve ev ⟨.builtin b, args, argTypes⟩ type; invoke d.target d.args).run P w = .ok (.value v) w := fun bx h1 h2 => by
      subst h2
      simp only [resolve, invoke, Sem.run_bind, Sem.run_pure, Result.andThen_ok]
      exact h1 _
    split at h <;> try contradiction
    · rename_i x t rest ha hat
      refine hb v (fun cs => ?_) rfl
      have e1 : args.map ev = #[ev x] := by rw [← Array.toList_inj]; simp [ha]
      have e2 : argTypes[0]? = some t := by rw [← Array.getElem?_toList, hat]; rfl
      split at h
      · rename_i hsl
        unfold sliceLike at hsl
        split at hsl <;> try contradiction
        rename_i e ht
        unfold lenV at h
        split at h <;> try contradiction
        rename_i hx
        cases h
        simp [builtin, Builtin.len_, e1, e2, run_underlying' ht, hx, goInt]
      · split at h <;> try contradiction
        rename_i hsl
        unfold isStrT at hsl
        split at hsl <;> try contradiction
        rename_i ht
        unfold lenStrV at h
        split at h <;> try contradiction
        rename_i hx
        cases h
        simp [builtin, Builtin.len_, e1, e2, run_underlying' ht, hx, goInt]
    · rename_i x t rest ha hat
      refine hb v (fun cs => ?_) rfl
      have e1 : args.map ev = #[ev x] := by rw [← Array.toList_inj]; simp [ha]
      have e2 : argTypes[0]? = some t := by rw [← Array.getElem?_toList, hat]; rfl
      split at h <;> try contradiction
      rename_i hsl
      unfold sliceLike at hsl
      split at hsl <;> try contradiction
      rename_i e ht
      unfold capV at h
      split at h <;> try contradiction
      rename_i hx
      cases h
      simp [builtin, Builtin.cap_, e1, e2, run_underlying' ht, hx, goInt]
    · rename_i x y ha
      refine hb v (fun cs => ?_) rfl
      have e1 : args.map ev = #[ev x, ev y] := by rw [← Array.toList_inj]; simp [ha]
      unfold minV at h
      split at h <;> try contradiction
      rename_i hx hy
      cases h
      simp [builtin, Builtin.min_, Builtin.min2, e1, hx, hy]
    · rename_i x y ha
      refine hb v (fun cs => ?_) rfl
      have e1 : args.map ev = #[ev x, ev y] := by rw [← Array.toList_inj]; simp [ha]
      unfold maxV at h
      split at h <;> try contradiction
      rename_i hx hy
      cases h
      simp [builtin, Builtin.max_, Builtin.max2, e1, hx, hy]

/- loads -/
theorem cells_run {H : Heap} {a : Addr} (w : World) (hw : w.heap = H) : ∀ (n i : Nat) (l : List Value) (acc : Array Value), cellsH H a i n = some l →
    (loadCellsFrom a i n acc).run P w = .ok (acc ++ l.toArray) w
  | 0, i, l, acc, h => by simp only [cellsH, Option.some.injEq] at h; subst h; simp [loadCellsFrom]
  | n + 1, i, l, acc, h => by
    simp only [cellsH] at h
    split at h <;> try contradiction
    rename_i v hv
    cases hr : cellsH H a (i + 1) n with
    | none => simp [hr] at h
    | some r =>
      simp only [hr, Option.map_some, Option.some.injEq] at h
      subst h
      have hl : (load (a.add i)).run P w = .ok v w := by
        have : w.cell? (a.add i) = some v := by rw [cellH_eq, hw]; exact hv
        simp [load, Sem.run, this]
      simp [loadCellsFrom, hl, cells_run w hw n (i + 1) r (acc.push v) hr]

theorem load1_sound {t : TypeId} {n : Nat} {x v : Value} {H : Heap} (ha : aggSize P t = some (n, false)) (h : load1V x H = some v) (w : World) (hw : w.heap = H) :
    (Instr.loadAt t x).run P w = .ok v w := by
  obtain ⟨i, hi, rfl, hr⟩ := aggSize_spec ha
  unfold load1V at h
  split at h <;> try contradiction
  rename_i a
  have : w.cell? a = some v := by rw [cellH_eq, hw]; exact h
  simp [Instr.loadAt, Instr.sureAddr, loadVar, hr, load, Sem.run, this]

theorem loadN_sound {t : TypeId} {n : Nat} {x v : Value} {H : Heap} (ha : aggSize P t = some (n, true)) (h : loadNV n x H = some v) (w : World) (hw : w.heap = H) :
    (Instr.loadAt t x).run P w = .ok v w := by
  obtain ⟨i, hi, rfl, hr⟩ := aggSize_spec ha
  unfold loadNV at h
  split at h <;> try contradiction
  rename_i a
  cases hc : cellsH H a 0 i.size with
  | none => simp [hc] at h
  | some l =>
    simp only [hc, Option.map_some, Option.some.injEq] at h
    subst h
    simp [Instr.loadAt, Instr.sureAddr, loadVar, hr, loadCells, run_sizeOf' hi, cells_run (P := P) w hw _ _ _ #[] hc]
end
end Go.Cps

/-
  Operations that write, make memory, or call: what they come to at heap level; they run so.
  Conditions: none.
-/
namespace Go.Cps
open Go

def Get {α : Type} (o : Option α) (K : α → Prop) : Prop := ∃ v, o = some v ∧ K v
def New (o : Obj) (H : Heap) (K : Value → Heap → Prop) : Prop := K (.pointer (some ⟨H.size, 0, none⟩)) (H.push o)
def ExecV (P : Program) (s : Sem Value) (H : Heap) (K : Value → Heap → Prop) : Prop :=
  ∀ w, w.heap = H → match s.run P w with
    | .ok v w' => Same w w' ∧ K v w'.heap
    | .halt _ _ => False

def store1V (a v : Value) (H : Heap) : Option Heap := match a with | .pointer (some p) => storesH p 0 [v] H | _ => none
def storeNV (n : Nat) (a v : Value) (H : Heap) : Option Heap :=
  match a, v with
  | .pointer (some p), .agg cs => if cs.size = n then storesH p 0 cs.toList H else none
  | _, _ => none

def zeros (zero : Array Value) (n : Nat) : Array Value := Builtin.zeroCells zero n

/-- the first n elements of a slice -/
def elemsV (size n : Nat) (x : Value) (H : Heap) : Option (List Value) :=
  match x with
  | .slice (some a) _ _ => cellsH H a 0 (n * size)
  | .slice none _ _ => some []
  | .string s => some (((s.extract 0 n).data.map fun b => .int .u8 b.toNat).toList)
  | _ => none
def countV (x : Value) : Option Nat := match x with | .slice _ n _ => some n | .string s => some s.size | _ => none

def storeRow (size n : Nat) (base : Option Addr) (cs : List Value) (H : Heap) : Option Heap :=
  match base with
  | some a => storesH (a.add (n * size)) 0 cs H
  | none => some H

/-- append of a slice or a string -/
def Append (elem size bytes : Nat) (zero : Array Value) (s x : Value) (H : Heap) (K : Value → Heap → Prop) : Prop :=
  ∃ base sLen sCap n news, s = .slice base sLen sCap ∧ countV x = some n ∧ elemsV size n x H = some news ∧
    ((sLen + n ≤ sCap ∧ Get (storeRow size sLen base news H) fun H' => K (.slice base (sLen + n) sCap) H') ∨
     (sCap < sLen + n ∧ sLen + n < 2 ^ 63 ∧ Builtin.nextslicecap (sLen + n) sCap * bytes ≤ 2 ^ 48 ∧ ∃ olds, elemsV size sLen s H = some olds ∧
        ∀ c, sLen + n ≤ c → K (.slice (some ⟨H.size, 0, none⟩) (sLen + n) c) (H.push (.cells (olds.toArray ++ news.toArray ++ zeros zero (c - (sLen + n))) elem (0, 0)))))

/-- append of n zeros, where there is no room -/
def AppendZ (elem size bytes : Nat) (zero : Array Value) (s x : Value) (H : Heap) (K : Value → Heap → Prop) : Prop :=
  ∃ base sLen sCap n, s = .slice base sLen sCap ∧ x = .int .i64 (n : Nat) ∧ 0 < n * size ∧ n < 2 ^ 63 ∧ n * bytes ≤ 2 ^ 48 ∧ sCap < sLen + n ∧ sLen + n < 2 ^ 63 ∧ Builtin.nextslicecap (sLen + n) sCap * bytes ≤ 2 ^ 48 ∧
    ∃ olds, elemsV size sLen s H = some olds ∧
      ∀ c, sLen + n ≤ c → K (.slice (some ⟨H.size, 0, none⟩) (sLen + n) c) (H.push (.cells (olds.toArray ++ zeros zero n ++ zeros zero (c - (sLen + n))) elem (0, 0)))

/-- copy of a slice or a string -/
def Copy (size : Nat) (d x : Value) (H : Heap) (K : Value → Heap → Prop) : Prop :=
  ∃ base dLen dCap n cs, d = .slice base dLen dCap ∧ countV x = some n ∧ elemsV size (Nat.min n dLen) x H = some cs ∧
    Get (match base with | some a => storesH a 0 cs H | none => some H) fun H' => K (.int .i64 (Nat.min n dLen : Nat)) H'

/-- a string's bytes in a new row -/
def ToBytes (elem : Nat) (x : Value) (H : Heap) (K : Value → Heap → Prop) : Prop :=
  ∃ s : ByteArray, x = .string s ∧ ∀ c, s.size ≤ c →
    K (.slice (some ⟨H.size, 0, none⟩) s.size c) (H.push (.cells ((s.data.map fun b => .int .u8 b.toNat) ++ Array.replicate (c - s.size) (.int .u8 0)) elem (c, c + 1)))

def MakeSlice (elem size bytes : Nat) (zero : Array Value) (l c : Value) (H : Heap) (K : Value → Heap → Prop) : Prop :=
  ∃ (kl kc : IntKind) (n m : Nat), l = .int kl n ∧ c = .int kc m ∧ n ≤ m ∧ bytes * m ≤ 2 ^ 48 ∧ m < 2 ^ 63 ∧
    K (.slice (some ⟨H.size, 0, none⟩) n m) (H.push (.cells ((Array.range (m * size)).map (zero[· % zero.size]!)) elem (0, 0)))

/-- a slice of bytes converted to its own type: its row is marked -/
def MarkS (x : Value) (H : Heap) (K : Value → Heap → Prop) : Prop :=
  ∃ (a : Addr) (n c : Nat) (cs : Array Value) (t : TypeId), x = .slice (some a) n c ∧ H[a.block]? = some (.cells cs t (0, 0)) ∧ K x (H.setIfInBounds a.block (.cells cs t (cs.size, cs.size + 1)))

/-- make of a map with a hint of its size -/
def NewMapH (h : Value) (H : Heap) (K : Value → Heap → Prop) : Prop := match h with | .int _ _ => K (.map (some H.size)) (H.push (.map #[] 0)) | _ => False

def hasBody (P : Program) (f : FuncId) : Bool :=
  match P.funcs[f]? with
  | some fn => !(fn.name == "runtime.NumGoroutine") && fn.body.isSome
  | none => false

/-- a call of a function of the library's that has no body -/
def CallX (P : Program) (f : FuncId) (args : Array Value) (H : Heap) (K : Value → Heap → Prop) : Prop :=
  ∃ fn e, P.funcs[f]? = some fn ∧ (fn.name == "runtime.NumGoroutine") = false ∧ fn.body = none ∧ (Extern.findNext fn).isNone = true ∧ Extern.find fn = some e ∧ ExecV P (e args) H K

/-- a call of a function value -/
def CallV (P : Program) (fv : Value) (args : Array Value) (H : Heap) (K : Value → Heap → Prop) : Prop :=
  ∃ f first cap, fv = .func (.func f) first cap ∧ hasBody P f = true ∧ CallsH P f (first ++ args ++ cap) H K

/-- the method of a dynamic type, by its own row in the type's table -/
def methodRes (P : Program) (t : TypeId) (name : String) : Option FuncId :=
  match P.info? t with
  | some i => match i.methods.find? (·.name == name) with
    | some m => match m.path.isEmpty, m.func, P.underlying t with
      | true, some (f, true), some (.pointer _) => some f
      | true, some (_, false), some (.pointer _) => none
      | true, some (f, false), some _ => some f
      | _, _, _ => none
    | none => none
  | none => none

/-- a call of an interface's method -/
def Invoke (P : Program) (name : String) (recv : Value) (args : Array Value) (H : Heap) (K : Value → Heap → Prop) : Prop :=
  ∃ t x f, recv = .iface t x ∧ methodRes P t name = some f ∧ hasBody P f = true ∧ CallsH P f (#[x] ++ args) H K

inductive Kind where
  | pure | read | eff

def isLenLike : Builtin → Bool
  | .len | .cap | .min | .max => true
  | _ => false

def lenType (P : Program) : List TypeId → Bool
  | t :: _ => match P.underlying t with | some (.slice _) | some .string | some (.int _) => true | _ => false
  | [] => false

def kindOf (P : Program) (o : Oper) : Kind :=
  match o.op with
  | .move _ | .assign _ | .pick _ _ _ | .nilCheck _ | .unOp _ _ _ | .fieldAddr _ _ _ | .field _ _ _ | .indexAddr _ _ _ | .index _ _ _ | .extract _ _
  | .slice _ _ _ _ _ | .makeInterface _ _ | .makeFunc _ _ _ | .build _ _ => .pure
  | .load _ _ => .read
  | .binOp op t x y _ => match binRes P op t x y with | .no => .eff | _ => .pure
  | .convert s d _ => match convRes P s d with | .int _ | .str => .pure | .bytes => .read | _ => .eff
  | .call ⟨.builtin b, _, ts⟩ => if isLenLike b && lenType P ts.toList then .pure else .eff
  | _ => .eff

def effP (P : Program) (ev : Operand → Value) (o : Oper) (H : Heap) (K : Value → Heap → Prop) : Prop :=
  match o.op with
  | .store t a x => match aggSize P t with
    | some (n, true) => Get (storeNV n (ev a) (ev x) H) fun H' => K undef H'
    | some (1, false) => Get (store1V (ev a) (ev x) H) fun H' => K undef H'
    | _ => False
  | .alloc t => match (P.info? t).bind (·.zero) with
    | some z => New (.cells z.cells t (0, 0)) H K
    | none => False
  | .box t x => New (.cells (ev x).cells t (0, 0)) H K
  | .buildSlice t len parts => match P.underlying t with
    | some (.slice e) => match P.info? e with
      | some i => match i.zero with
        | some z => if len * i.size > 2 ^ 24 then False else
          Get (Instr.fill (fun j => some (j * i.size, i.size)) ((Array.range (len * i.size)).map (z.cells[· % z.cells.size]!)) (parts.toList.map fun p => (p.1, ev p.2)))
            fun cs => K (.slice (some ⟨H.size, 0, none⟩) len len) (H.push (.cells cs e (0, 0)))
        | none => False
      | none => False
    | _ => False
  | .makeMap _ none => K (.map (some H.size)) (H.push (.map #[] 0))
  | .makeMap t (some h) => match P.underlying t with | some (.map _ _) => NewMapH (ev h) H K | _ => False
  | .makeSlice t l c => match P.underlying t with
    | some (.slice e) => match P.info? e with
      | some i => match i.zero with
        | some z => MakeSlice e i.size i.bytes z.cells (ev l) (ev c) H K
        | none => False
      | none => False
    | _ => False
  | .convert s d x => match convRes P s d with
    | .toBytes e => ToBytes e (ev x) H K
    | .mark => MarkS (ev x) H K
    | _ => False
  | .binOp op t x y _ => ExecV P (do eqGuard op t x y (ev x) (ev y); binOp op t (ev x) (ev y)) H K
  | .lookup t' x i ok => ExecV P (Instr.lookup t' (ev x) (ev i) ok) H K
  | .mapUpdate t m k x => ExecV P (do Instr.mapUpdate t (ev m) (ev k) (ev x); pure undef) H K
  | .range t x => ExecV P (Instr.range t (ev x)) H K
  | .next it s => ExecV P (Instr.next (ev it) s o.type) H K
  | .entry it => ExecV P (Instr.entry (ev it)) H K
  | .typeAssert x xt a ok => ExecV P (Instr.typeAssert (ev x) xt a ok) H K
  | .call ⟨.value f, args, _⟩ => match f with
    | .func f => if hasBody P f then CallsH P f (args.map ev) H K else CallX P f (args.map ev) H K
    | f => CallV P (ev f) (args.map ev) H K
  | .call ⟨.invoke r name, args, _⟩ => Invoke P name (ev r) (args.map ev) H K
  | .call ⟨.builtin b, args, argTypes⟩ => match b, args.toList, argTypes.toList with
    | .append, [s, x], [st, xt] => match P.underlying st, P.underlying xt with
      | some (.slice e), some (.slice _) | some (.slice e), some .string => match P.info? e with
        | some i => match i.zero with
          | some z => Append e i.size i.bytes z.cells (ev s) (ev x) H K
          | none => False
        | none => False
      | some (.slice e), some (.int _) => match P.info? e with
        | some i => match i.zero with
          | some z => AppendZ e i.size i.bytes z.cells (ev s) (ev x) H K
          | none => False
        | none => False
      | _, _ => False
    | .copy, [s, x], st :: _ => match P.underlying st with
      | some (.slice e) => match P.info? e with
        | some i => Copy i.size (ev s) (ev x) H K
        | none => False
      | _ => False
    | .len, [x], t :: _ => ExecV P (Builtin.len_ argTypes o.type #[ev x]) H K
    | _, _, _ => False
  | _ => False

def opP (P : Program) (ev : Operand → Value) (o : Oper) (H : Heap) (K : Value → Heap → Prop) : Prop :=
  match kindOf P o with
  | .pure => match o.op with
    | .move x | .assign x => K (ev x) H
    | .makeFunc fn a b => K (.func fn (a.map ev) (b.map ev)) H
    | _ => Get (pureV P ev o) fun v => K v H
  | .read => Get (readV P ev H o) fun v => K v H
  | .eff => effP P ev o H K
end Go.Cps
