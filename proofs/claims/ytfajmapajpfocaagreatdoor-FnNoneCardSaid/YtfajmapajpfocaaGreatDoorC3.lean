/-
  Operations that touch no memory, and loads, run as they are told.
  Conditions: none.
-/
import Derived.Test.YtfajmapajpfocaaGreatDoorC2
set_option linter.all false
namespace Go.Cps
open Go
section
variable {P : Program} {ev : Operand → Value} {o : Oper} {v : Value}

theorem arith_sound {op : BinOp} {k : IntKind} {t : TypeId} {x y : Value} {a b : Operand} (hs : isShift op = false) (h : arithV op k x y = some v) (w : World) :
    (do eqGuard op t a b x y; binOp op t x y : Sem Value).run P w = .ok v w := by
  unfold arithV at h
  split at h <;> try contradiction
  rename_i k1 m k2 n
  split at h <;> try contradiction
  rename_i hk
  obtain ⟨rfl, rfl⟩ := hk
  cases op <;> simp [isShift] at hs <;> simp only [] at h
  all_goals (try (split at h <;> try contradiction))
  all_goals (cases h)
  all_goals (simp [eqGuard, binOp, Op.intArith, Op.intDiv, Op.intBits, Op.intCmp, *])

theorem shift_sound {op : BinOp} {k : IntKind} {t : TypeId} {x y : Value} {a b : Operand} (h : shiftV op k x y = some v) (w : World) :
    (do eqGuard op t a b x y; binOp op t x y : Sem Value).run P w = .ok v w := by
  unfold shiftV at h
  split at h <;> try contradiction
  rename_i k1 m k2 n
  split at h <;> try contradiction
  rename_i hk
  obtain ⟨rfl, hn⟩ := hk
  have : ¬ n < 0 := by omega
  cases op <;> simp only [] at h <;> try contradiction
  all_goals (cases h)
  all_goals (simp [eqGuard, binOp, Op.shift, this])

theorem str_sound {op : BinOp} {t : TypeId} {x y : Value} {a b : Operand} (h : strV op x y = some v) (w : World) :
    (do eqGuard op t a b x y; binOp op t x y : Sem Value).run P w = .ok v w := by
  unfold strV at h
  split at h <;> try contradiction
  rename_i s u
  cases op <;> simp only [] at h <;> try contradiction
  case add =>
    split at h <;> try contradiction
    rename_i hle
    cases h
    have : ¬ ((s.size + u.size : Nat) : Int) > IntKind.i64.max := by
      have : IntKind.i64.max = 9223372036854775807 := rfl
      omega
    simp only [eqGuard, binOp, Op.stringOp, this, if_false]
    simp
  all_goals (cases h; simp [eqGuard, binOp, Op.stringOp])

theorem boolEq_sound {op : BinOp} {t : TypeId} {x y : Value} {a b : Operand} (ht : P.underlying t = some .bool) (h : boolEqV op x y = some v) (w : World) :
    (do eqGuard op t a b x y; binOp op t x y : Sem Value).run P w = .ok v w := by
  unfold boolEqV at h
  split at h <;> try contradiction
  all_goals
    rename_i x y
    cases h
    have e : (Op.equal t (.bool x) (.bool y)).run P w = .ok (x == y) w := equalIn_bool x y 9999 ht w
    simp only [eqGuard, binOp, Sem.run_bind]
    simp [bne, e]

theorem bin_sound {op : BinOp} {t : TypeId} {x y : Operand} (hev : ∀ c, ev (.const c) = c) (h : binV P op t ev x y = some v) (w : World) :
    (do eqGuard op t x y (ev x) (ev y); binOp op t (ev x) (ev y) : Sem Value).run P w = .ok v w := by
  unfold binV at h
  generalize hr : binRes P op t x y = r at h
  unfold binRes at hr
  split at hr
  · rename_i c hc
    subst hr
    split at hc <;> try contradiction
    rename_i he
    have hy := nilConst_ev hc
    subst hy
    rw [hev]
    exact (nil_sound (P := P) he hc h w).1
  · split at hr
    · rename_i c hc
      subst hr
      split at hc <;> try contradiction
      rename_i he
      have hy := nilConst_ev hc
      subst hy
      rw [hev]
      exact (nil_sound (P := P) he hc h w).2
    · split at hr
      · rename_i k ht
        split at hr
        · subst hr; exact shift_sound h w
        · rename_i hs; subst hr; exact arith_sound (by simpa using hs) h w
      · subst hr; exact str_sound h w
      · rename_i ht; subst hr; exact boolEq_sound ht h w
      · subst hr; simp at h

theorem places_run : ∀ (fs : List Field) (l : List (Nat × Nat)), (fs.mapM fun f => (P.info? f.type).map fun i => (f.offset, i.size)) = some l →
    ∀ w, (fs.mapM (m := Sem) fun f => Prod.mk f.offset <$> sizeOf f.type).run P w = .ok l w
  | [], l, h, w => by simp at h; subst h; rfl
  | f :: fs, l, h, w => by
    rw [List.mapM_cons] at h
    cases hi : P.info? f.type with
    | none => simp [hi] at h
    | some i =>
      cases hm : (fs.mapM fun f => (P.info? f.type).map fun i => (f.offset, i.size)) with
      | none => simp [hi, hm] at h
      | some l' =>
        simp [hi, hm] at h
        subst h
        simp [List.mapM_cons, run_sizeOf' hi, places_run fs l' hm w]

theorem pureV_sound (hev : ∀ c, ev (.const c) = c) (h : pureV P ev o = some v) (w : World) : (execOp ev o).run P w = .ok (.value v) w := by
  obtain ⟨dst, op, type, pos, after, guard⟩ := o
  unfold execOp
  cases op <;> simp only [pureV] at h <;> try contradiction
  case move x => cases h; rfl
  case assign x => cases h; rfl
  case pick c a b =>
    unfold pickV at h
    split at h <;> try contradiction
    rename_i t hc
    cases h
    simp [hc, asBool]
  case nilCheck x =>
    unfold nilV at h
    split at h <;> try contradiction
    all_goals (rename_i hx; cases h; simp only [hx]; rfl)
  case unOp op t x =>
    refine run_v _ _ _ ?_
    unfold unV at h
    split at h <;> try contradiction
    all_goals (rename_i hx; cases h; simp [Op.unary, hx, Op.intArith, Op.intBits])
  case fieldAddr s x f =>
    refine run_v _ _ _ ?_
    split at h <;> try contradiction
    rename_i off size ag hf
    split at h <;> try contradiction
    rename_i hsz
    obtain ⟨fs, fd, hs, hfd, rfl, hag⟩ := fieldRes_spec hf
    obtain ⟨i, hi, rfl, _⟩ := aggSize_spec hag
    unfold fieldAddrV at h
    split at h <;> try contradiction
    rename_i a hx
    cases h
    simp [Instr.fieldAt, run_underlying' hs, hfd, hx, Instr.sureAddr, fieldPlace, run_sizeOf' hi, hsz]
  case field s x f =>
    refine run_v _ _ _ ?_
    split at h <;> try contradiction
    all_goals
      rename_i hf
      obtain ⟨fs, fd, hs, hfd, rfl, hag⟩ := fieldRes_spec hf
      obtain ⟨i, hi, rfl, hr⟩ := aggSize_spec hag
    · unfold fieldAggV at h
      split at h <;> try contradiction
      rename_i cs hx
      cases h
      simp [Instr.field, run_underlying' hs, hfd, hx, asAgg, part, hr, run_sizeOf' hi]
    · unfold fieldOneV at h
      split at h <;> try contradiction
      rename_i cs hx
      simp [Instr.field, run_underlying' hs, hfd, hx, asAgg, part, hr, h]
  case indexAddr t x i =>
    refine run_v _ _ _ ?_
    split at h <;> try contradiction
    · rename_i e ht
      split at h <;> try contradiction
      rename_i i' hi
      unfold elemAddrV at h
      split at h <;> try contradiction
      rename_i a len cap k n hx hn
      split at h <;> try contradiction
      rename_i hc
      cases h
      simp [Instr.indexAt, run_underlying' ht, hx, hn, asIntOf, hc, run_sizeOf' hi]
    · rename_i m e ht
      split at h <;> try contradiction
      rename_i hm
      split at h <;> try contradiction
      rename_i i' hi
      unfold arrAddrV at h
      split at h <;> try contradiction
      rename_i a k n hx hn
      split at h <;> try contradiction
      rename_i hc
      cases h
      simp [Instr.indexAt, run_underlying' ht, hx, hn, asIntOf, hc, run_sizeOf' hi, Instr.sureAddr]
  case index t x i =>
    refine run_v _ _ _ ?_
    split at h <;> try contradiction
    rename_i ht
    unfold strIndexV at h
    split at h <;> try contradiction
    rename_i s k n hx hn
    split at h <;> try contradiction
    rename_i b hb
    cases h
    simp only [Instr.index, Sem.run_bind, hn, asIntOf, Sem.run_pure, Result.andThen_ok, run_underlying' ht, hx, hb]
  case extract x i =>
    refine run_v _ _ _ ?_
    unfold extractV at h
    split at h <;> try contradiction
    rename_i vs hx
    simp [Instr.extract, hx, h]
  case slice t x lo hi mx =>
    refine run_v _ _ _ ?_
    split at h <;> try contradiction
    · rename_i ht
      split at h <;> try contradiction
      rename_i hmx
      have hmx' : mx = none := by simpa using hmx
      subst hmx'
      unfold strSliceV at h
      split at h <;> try contradiction
      rename_i s hx
      split at h <;> try contradiction
      rename_i l hh m hb
      cases h
      simp [Instr.sliceAt, Instr.slice, run_underlying' ht, hx, bounds_sound (P := P) (mx := none) rfl hb]
    · rename_i e ht
      split at h <;> try contradiction
      rename_i i' hi'
      split at h <;> try contradiction
      rename_i hmx
      unfold sliceV at h
      split at h <;> try contradiction
      rename_i a len cap hx
      split at h <;> try contradiction
      rename_i l hh m hb
      cases h
      have hm2 : ((mx.map ev).isSome && (hi.map ev).isNone) = false := by cases mx <;> cases hi <;> simp_all
      simp [Instr.sliceAt, Instr.slice, run_underlying' ht, hx, bounds_sound (P := P) hm2 hb, run_sizeOf' hi']
    · rename_i n e ht
      split at h <;> try contradiction
      rename_i i' hi'
      split at h <;> try contradiction
      rename_i hmx
      unfold arrSliceV at h
      split at h <;> try contradiction
      rename_i a hx
      split at h <;> try contradiction
      rename_i l hh m hb
      cases h
      have hm2 : ((mx.map ev).isSome && (hi.map ev).isNone) = false := by cases mx <;> cases hi <;> simp_all
      simp [Instr.sliceAt, run_underlying' ht, hx, Instr.sureAddr, bounds_sound (P := P) hm2 hb, run_sizeOf' hi']
  case makeInterface t x =>
    refine run_v _ _ _ ?_
    split at h <;> try contradiction
    rename_i hi
    cases h
    cases hd : P.underlying t with
    | none => simp [isIfaceT, hd] at hi
    | some d =>
      simp only [isIfaceT, hd] at hi
      simp only [Instr.makeInterface, Sem.run_bind, run_underlying' hd, Result.andThen_ok]
      cases d <;> first | rfl | (simp at hi; done)
  case makeFunc fn a b => cases h; rfl
  case binOp op t x y yt => exact run_v _ _ _ (bin_sound hev h w)
  case build t parts =>
    refine run_v _ _ _ ?_
    split at h <;> try contradiction
    rename_i places zero hb
    unfold buildRes at hb
    split at hb <;> try contradiction
    rename_i fs z ht hz
    cases hm : (fs.toList.mapM fun f => (P.info? f.type).map fun i => (f.offset, i.size)) with
    | none => simp [hm] at hb
    | some l =>
      simp only [hm, Option.map_some, Option.some.injEq, Prod.mk.injEq] at hb
      obtain ⟨rfl, rfl⟩ := hb
      cases hi : P.info? t with
      | none => simp [hi] at hz
      | some i =>
        simp only [hi, Option.bind_some] at hz
        cases hf : fillV l.toArray z.cells (parts.toList.map fun p => (p.1, ev p.2)) with
        | none => simp [hf] at h
        | some cs =>
          simp only [hf, Option.map_some, Option.some.injEq] at h
          subst h
          have hzv : ∀ w, (zeroValue t).run P w = .ok z w := fun w => by simp [zeroValue, run_typeInfo' hi, hz]
          have hpl := places_run (P := P) fs.toList l hm
          have hpa : ∀ w, (fs.mapM (m := Sem) fun f => Prod.mk f.offset <$> sizeOf f.type).run P w = .ok l.toArray w := fun w => by
            rw [Array.mapM_eq_mapM_toList]
            simp [hpl]
          unfold fillV at hf
          simp only [Instr.build, Sem.run_bind, hzv, run_underlying' ht, Result.andThen_ok, bind_pure_comp, hpa, Array.toList_map, hf]
          rfl
  case convert s d x =>
    refine run_v _ _ _ ?_
    split at h <;> try contradiction
    all_goals (rename_i hc; unfold convRes at hc; split at hc <;> try contradiction)
    all_goals (try (split at hc <;> try contradiction))
    · rename_i hs hd
      cases hc
      unfold intConvV at h
      split at h <;> try contradiction
      rename_i hx
      cases h
      simp [convert, run_underlying' hs, run_underlying' hd, hx, Conv.intToInt]
    · rename_i hs hd
      unfold sameStrV at h
      split at h <;> try contradiction
      rename_i hx
      cases h
      simp [convert, run_underlying' hs, run_underlying' hd, hx]
  case call c =>
    obtain ⟨callee, args, argTypes⟩ := c
    cases callee <;> simp only [] at h <;> try contradiction
    rename_i b
    have hb : ∀ (bx : Value), (∀ cs, (builtin b argTypes type cs (args.map ev)).run P w = .ok (.value bx) w) → bx = v →
        (do let d ← resolve ev ⟨.builtin b, args, argTypes⟩ type; invoke d.target d.args).run P w = .ok (.value v) w := fun bx h1 h2 => by
      subst h2
      simp only [resolve, invoke, Sem.run_bind, Sem.run_pure, Result.andThen_ok]
      exact h1 _
    split at h <;> try contradiction
    · rename_i x t rest ha hat
      refine hb v (fun cs => ?_) rfl
      have e1 : args.map ev = #[ev x] := by rw [← Array.toList_inj]; simp [ha]
      have e2 : argTypes[0]? = some t := by rw [← Array.getElem?_toList, hat]; rfl
      split at h
      · rename_i hsl
        unfold sliceLike at hsl
        split at hsl <;> try contradiction
        rename_i e ht
        unfold lenV at h
        split at h <;> try contradiction
        rename_i hx
        cases h
        simp [builtin, Builtin.len_, e1, e2, run_underlying' ht, hx, goInt]
      · split at h <;> try contradiction
        rename_i hsl
        unfold isStrT at hsl
        split at hsl <;> try contradiction
        rename_i ht
        unfold lenStrV at h
        split at h <;> try contradiction
        rename_i hx
        cases h
        simp [builtin, Builtin.len_, e1, e2, run_underlying' ht, hx, goInt]
    · rename_i x t rest ha hat
      refine hb v (fun cs => ?_) rfl
      have e1 : args.map ev = #[ev x] := by rw [← Array.toList_inj]; simp [ha]
      have e2 : argTypes[0]? = some t := by rw [← Array.getElem?_toList, hat]; rfl
      split at h <;> try contradiction
      rename_i hsl
      unfold sliceLike at hsl
      split at hsl <;> try contradiction
      rename_i e ht
      unfold capV at h
      split at h <;> try contradiction
      rename_i hx
      cases h
      simp [builtin, Builtin.cap_, e1, e2, run_underlying' ht, hx, goInt]
    · rename_i x y ha
      refine hb v (fun cs => ?_) rfl
      have e1 : args.map ev = #[ev x, ev y] := by rw [← Array.toList_inj]; simp [ha]
      unfold minV at h
      split at h <;> try contradiction
      rename_i hx hy
      cases h
      simp [builtin, Builtin.min_, Builtin.min2, e1, hx, hy]
    · rename_i x y ha
      refine hb v (fun cs => ?_) rfl
      have e1 : args.map ev = #[ev x, ev y] := by rw [← Array.toList_inj]; simp [ha]
      unfold maxV at h
      split at h <;> try contradiction
      rename_i hx hy
      cases h
      simp [builtin, Builtin.max_, Builtin.max2, e1, hx, hy]

/- loads -/
theorem cells_run {H : Heap} {a : Addr} (w : World) (hw : w.heap = H) : ∀ (n i : Nat) (l : List Value) (acc : Array Value), cellsH H a i n = some l →
    (loadCellsFrom a i n acc).run P w = .ok (acc ++ l.toArray) w
  | 0, i, l, acc, h => by simp only [cellsH, Option.some.injEq] at h; subst h; simp [loadCellsFrom]
  | n + 1, i, l, acc, h => by
    simp only [cellsH] at h
    split at h <;> try contradiction
    rename_i v hv
    cases hr : cellsH H a (i + 1) n with
    | none => simp [hr] at h
    | some r =>
      simp only [hr, Option.map_some, Option.some.injEq] at h
      subst h
      have hl : (load (a.add i)).run P w = .ok v w := by
        have : w.cell? (a.add i) = some v := by rw [cellH_eq, hw]; exact hv
        simp [load, Sem.run, this]
      simp [loadCellsFrom, hl, cells_run w hw n (i + 1) r (acc.push v) hr]

theorem load1_sound {t : TypeId} {n : Nat} {x v : Value} {H : Heap} (ha : aggSize P t = some (n, false)) (h : load1V x H = some v) (w : World) (hw : w.heap = H) :
    (Instr.loadAt t x).run P w = .ok v w := by
  obtain ⟨i, hi, rfl, hr⟩ := aggSize_spec ha
  unfold load1V at h
  split at h <;> try contradiction
  rename_i a
  have : w.cell? a = some v := by rw [cellH_eq, hw]; exact h
  simp [Instr.loadAt, Instr.sureAddr, loadVar, hr, load, Sem.run, this]

theorem loadN_sound {t : TypeId} {n : Nat} {x v : Value} {H : Heap} (ha : aggSize P t = some (n, true)) (h : loadNV n x H = some v) (w : World) (hw : w.heap = H) :
    (Instr.loadAt t x).run P w = .ok v w := by
  obtain ⟨i, hi, rfl, hr⟩ := aggSize_spec ha
  unfold loadNV at h
  split at h <;> try contradiction
  rename_i a
  cases hc : cellsH H a 0 i.size with
  | none => simp [hc] at h
  | some l =>
    simp only [hc, Option.map_some, Option.some.injEq] at h
    subst h
    simp [Instr.loadAt, Instr.sureAddr, loadVar, hr, loadCells, run_sizeOf' hi, cells_run (P := P) w hw _ _ _ #[] hc]
end
end Go.Cps
