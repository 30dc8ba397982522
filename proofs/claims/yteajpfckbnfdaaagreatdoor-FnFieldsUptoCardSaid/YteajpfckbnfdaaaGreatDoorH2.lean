/-
  A part of the proof: Operations that write, make memory, or call: what they come to at heap level; they run so. Operations that write, make memory, or call, run as they are told.
  Conditions: each contract's own.
-/
import Derived.Test.YteajpfckbnfdaaaGreatDoorH1
set_option linter.all false
namespace Go.Cps
open Go
def Get {α : Type} (o : Option α) (K : α → Prop) : Prop := ∃ v, o = some v ∧ K v
def New (o : Obj) (H : Heap) (K : Value → Heap → Prop) : Prop := K (.pointer (some ⟨H.size, 0, none⟩)) (H.push o)
def ExecV (P : Program) (s : Sem Value) (H : Heap) (K : Value → Heap → Prop) : Prop :=
  ∀ w, w.heap = H → match s.run P w with
    | .ok v w' => Same w w' ∧ K v w'.heap
    | .halt _ _ => False
def store1V (a v : Value) (H : Heap) : Option Heap := match a with | .pointer (some p) => storesH p 0 [v] H | _ => none
def storeNV (n : Nat) (a v : Value) (H : Heap) : Option Heap :=
  match a, v with
  | .pointer (some p), .agg cs => if cs.size = n then storesH p 0 cs.toList H else none
  | _, _ => none
def zeros (zero : Array Value) (n : Nat) : Array Value := Builtin.zeroCells zero n
def elemsV (size n : Nat) (x : Value) (H : Heap) : Option (List Value) :=
  match x with
  | .slice (some a) _ _ => cellsH H a 0 (n * size)
  | .slice none _ _ => some []
  | .string s => some (((s.extract 0 n).data.map fun b => .int .u8 b.toNat).toList)
  | _ => none
def countV (x : Value) : Option Nat := match x with | .slice _ n _ => some n | .string s => some s.size | _ => none
def storeRow (size n : Nat) (base : Option Addr) (cs : List Value) (H : Heap) : Option Heap :=
  match base with
  | some a => storesH (a.add (n * size)) 0 cs H
  | none => some H
def Append (elem size bytes : Nat) (zero : Array Value) (s x : Value) (H : Heap) (K : Value → Heap → Prop) : Prop :=
  ∃ base sLen sCap n news, s = .slice base sLen sCap ∧ countV x = some n ∧ elemsV size n x H = some news ∧
    ((sLen + n ≤ sCap ∧ Get (storeRow size sLen base news H) fun H' => K (.slice base (sLen + n) sCap) H') ∨
     (sCap < sLen + n ∧ sLen + n < 2 ^ 63 ∧ Builtin.nextslicecap (sLen + n) sCap * bytes ≤ 2 ^ 48 ∧ ∃ olds, elemsV size sLen s H = some olds ∧
        ∀ c, sLen + n ≤ c → K (.slice (some ⟨H.size, 0, none⟩) (sLen + n) c) (H.push (.cells (olds.toArray ++ news.toArray ++ zeros zero (c - (sLen + n))) elem (0, 0)))))
def AppendZ (elem size bytes : Nat) (zero : Array Value) (s x : Value) (H : Heap) (K : Value → Heap → Prop) : Prop :=
  ∃ base sLen sCap n, s = .slice base sLen sCap ∧ x = .int .i64 (n : Nat) ∧ 0 < n * size ∧ n < 2 ^ 63 ∧ n * bytes ≤ 2 ^ 48 ∧ sCap < sLen + n ∧ sLen + n < 2 ^ 63 ∧ Builtin.nextslicecap (sLen + n) sCap * bytes ≤ 2 ^ 48 ∧
    ∃ olds, elemsV size sLen s H = some olds ∧
      ∀ c, sLen + n ≤ c → K (.slice (some ⟨H.size, 0, none⟩) (sLen + n) c) (H.push (.cells (olds.toArray ++ zeros zero n ++ zeros zero (c - (sLen + n))) elem (0, 0)))
def Copy (size : Nat) (d x : Value) (H : Heap) (K : Value → Heap → Prop) : Prop :=
  ∃ base dLen dCap n cs, d = .slice base dLen dCap ∧ countV x = some n ∧ elemsV size (Nat.min n dLen) x H = some cs ∧
    Get (match base with | some a => storesH a 0 cs H | none => some H) fun H' => K (.int .i64 (Nat.min n dLen : Nat)) H'
def ToBytes (elem : Nat) (x : Value) (H : Heap) (K : Value → Heap → Prop) : Prop :=
  ∃ s : ByteArray, x = .string s ∧ ∀ c, s.size ≤ c →
    K (.slice (some ⟨H.size, 0, none⟩) s.size c) (H.push (.cells ((s.data.map fun b => .int .u8 b.toNat) ++ Array.replicate (c - s.size) (.int .u8 0)) elem (c, c + 1)))
def MakeSlice (elem size bytes : Nat) (zero : Array Value) (l c : Value) (H : Heap) (K : Value → Heap → Prop) : Prop :=
  ∃ (kl kc : IntKind) (n m : Nat), l = .int kl n ∧ c = .int kc m ∧ n ≤ m ∧ bytes * m ≤ 2 ^ 48 ∧ m < 2 ^ 63 ∧
    K (.slice (some ⟨H.size, 0, none⟩) n m) (H.push (.cells ((Array.range (m * size)).map (zero[· % zero.size]!)) elem (0, 0)))
def MarkS (x : Value) (H : Heap) (K : Value → Heap → Prop) : Prop :=
  ∃ (a : Addr) (n c : Nat) (cs : Array Value) (t : TypeId), x = .slice (some a) n c ∧ H[a.block]? = some (.cells cs t (0, 0)) ∧ K x (H.setIfInBounds a.block (.cells cs t (cs.size, cs.size + 1)))
def NewMapH (h : Value) (H : Heap) (K : Value → Heap → Prop) : Prop := match h with | .int _ _ => K (.map (some H.size)) (H.push (.map #[] 0)) | _ => False
def hasBody (P : Program) (f : FuncId) : Bool :=
  match P.funcs[f]? with
  | some fn => !(fn.name == "runtime.NumGoroutine") && fn.body.isSome
  | none => false
def CallX (P : Program) (f : FuncId) (args : Array Value) (H : Heap) (K : Value → Heap → Prop) : Prop :=
  ∃ fn e, P.funcs[f]? = some fn ∧ (fn.name == "runtime.NumGoroutine") = false ∧ fn.body = none ∧ (Extern.findNext fn).isNone = true ∧ Extern.find fn = some e ∧ ExecV P (e args) H K
def CallV (P : Program) (fv : Value) (args : Array Value) (H : Heap) (K : Value → Heap → Prop) : Prop :=
  ∃ f first cap, fv = .func (.func f) first cap ∧ hasBody P f = true ∧ CallsH P f (first ++ args ++ cap) H K
def methodRes (P : Program) (t : TypeId) (name : String) : Option FuncId :=
  match P.info? t with
  | some i => match i.methods.find? (·.name == name) with
    | some m => match m.path.isEmpty, m.func, P.underlying t with
      | true, some (f, true), some (.pointer _) => some f
      | true, some (_, false), some (.pointer _) => none
      | true, some (f, false), some _ => some f
      | _, _, _ => none
    | none => none
  | none => none
def Invoke (P : Program) (name : String) (recv : Value) (args : Array Value) (H : Heap) (K : Value → Heap → Prop) : Prop :=
  ∃ t x f, recv = .iface t x ∧ methodRes P t name = some f ∧ hasBody P f = true ∧ CallsH P f (#[x] ++ args) H K
inductive Kind where
  | pure | read | eff
def isLenLike : Builtin → Bool
  | .len | .cap | .min | .max => true
  | _ => false
def lenType (P : Program) : List TypeId → Bool
  | t :: _ => match P.underlying t with | some (.slice _) | some .string | some (.int _) => true | _ => false
  | [] => false
def kindOf (P : Program) (o : Oper) : Kind :=
  match o.op with
  | .move _ | .assign _ | .pick _ _ _ | .nilCheck _ | .unOp _ _ _ | .fieldAddr _ _ _ | .field _ _ _ | .indexAddr _ _ _ | .index _ _ _ | .extract _ _
  | .slice _ _ _ _ _ | .makeInterface _ _ | .makeFunc _ _ _ | .build _ _ => .pure
  | .load _ _ => .read
  | .binOp op t x y _ => match binRes P op t x y with | .no => .eff | _ => .pure
  | .convert s d _ => match convRes P s d with | .int _ | .str => .pure | .bytes => .read | _ => .eff
  | .call ⟨.builtin b, _, ts⟩ => if isLenLike b && lenType P ts.toList then .pure else .eff
  | _ => .eff
def effP (P : Program) (ev : Operand → Value) (o : Oper) (H : Heap) (K : Value → Heap → Prop) : Prop :=
  match o.op with
  | .store t a x => match aggSize P t with
    | some (n, true) => Get (storeNV n (ev a) (ev x) H) fun H' => K undef H'
    | some (1, false) => Get (store1V (ev a) (ev x) H) fun H' => K undef H'
    | _ => False
  | .alloc t => match (P.info? t).bind (·.zero) with
    | some z => New (.cells z.cells t (0, 0)) H K
    | none => False
  | .box t x => New (.cells (ev x).cells t (0, 0)) H K
  | .buildSlice t len parts => match P.underlying t with
    | some (.slice e) => match P.info? e with
      | some i => match i.zero with
        | some z => if len * i.size > 2 ^ 24 then False else
          Get (Instr.fill (fun j => some (j * i.size, i.size)) ((Array.range (len * i.size)).map (z.cells[· % z.cells.size]!)) (parts.toList.map fun p => (p.1, ev p.2)))
            fun cs => K (.slice (some ⟨H.size, 0, none⟩) len len) (H.push (.cells cs e (0, 0)))
        | none => False
      | none => False
    | _ => False
  | .makeMap _ none => K (.map (some H.size)) (H.push (.map #[] 0))
  | .makeMap t (some h) => match P.underlying t with | some (.map _ _) => NewMapH (ev h) H K | _ => False
  | .makeSlice t l c => match P.underlying t with
    | some (.slice e) => match P.info? e with
      | some i => match i.zero with
        | some z => MakeSlice e i.size i.bytes z.cells (ev l) (ev c) H K
        | none => False
      | none => False
    | _ => False
  | .convert s d x => match convRes P s d with
    | .toBytes e => ToBytes e (ev x) H K
    | .mark => MarkS (ev x) H K
    | _ => ExecV P (convert s d (ev x)) H K
  | .binOp op t x y _ => ExecV P (do eqGuard op t x y (ev x) (ev y); binOp op t (ev x) (ev y)) H K
  | .lookup t' x i ok => ExecV P (Instr.lookup t' (ev x) (ev i) ok) H K
  | .mapUpdate t m k x => ExecV P (do Instr.mapUpdate t (ev m) (ev k) (ev x); pure undef) H K
  | .range t x => ExecV P (Instr.range t (ev x)) H K
  | .next it s => ExecV P (Instr.next (ev it) s o.type) H K
  | .entry it => ExecV P (Instr.entry (ev it)) H K
  | .typeAssert x xt a ok => ExecV P (Instr.typeAssert (ev x) xt a ok) H K
  | .call ⟨.value f, args, _⟩ => match f with
    | .func f => if hasBody P f then CallsH P f (args.map ev) H K else CallX P f (args.map ev) H K
    | f => CallV P (ev f) (args.map ev) H K
  | .call ⟨.invoke r name, args, _⟩ => Invoke P name (ev r) (args.map ev) H K
  | .call ⟨.builtin b, args, argTypes⟩ => match b, args.toList, argTypes.toList with
    | .append, [s, x], [st, xt] => match P.underlying st, P.underlying xt with
      | some (.slice e), some (.slice _) | some (.slice e), some .string => match P.info? e with
        | some i => match i.zero with
          | some z => Append e i.size i.bytes z.cells (ev s) (ev x) H K
          | none => False
        | none => False
      | some (.slice e), some (.int _) => match P.info? e with
        | some i => match i.zero with
          | some z => AppendZ e i.size i.bytes z.cells (ev s) (ev x) H K
          | none => False
        | none => False
      | _, _ => False
    | .copy, [s, x], st :: _ => match P.underlying st with
      | some (.slice e) => match P.info? e with
        | some i => Copy i.size (ev s) (ev x) H K
        | none => False
      | _ => False
    | .len, [x], t :: _ => ExecV P (Builtin.len_ argTypes o.type #[ev x]) H K
    | .unsafeSliceData, [x], t :: _ => ExecV P (Builtin.unsafeSliceData_ argTypes o.type #[ev x]) H K
    | .unsafeString, [x, n], t :: _ => ExecV P (Builtin.unsafeString_ argTypes o.type #[ev x, ev n]) H K
    | .delete, [m, k], t :: _ => ExecV P (Builtin.delete_ argTypes o.type #[ev m, ev k]) H K
    | _, _, _ => False
  | _ => False
end Go.Cps
namespace Go.Cps
open Go
section
variable {P : Program} {ev : Operand → Value} {o : Oper} {H : Heap} {K : Value → Heap → Prop}
theorem execH_v {s : Sem Value} (h : ∀ w, w.heap = H → ∃ v w', s.run P w = .ok v w' ∧ Same w w' ∧ K v w'.heap) : ExecH P (do pure (Next.value (← s))) H K := fun w hw => by
  obtain ⟨v, w', hr, hs, hK⟩ := h w hw
  simp only [Sem.run_bind, hr, Result.andThen_ok, Sem.run_pure, Good]
  exact ⟨hs, hK⟩
theorem execH_u {s : Sem Unit} (h : ∀ w, w.heap = H → ∃ w', s.run P w = .ok () w' ∧ Same w w' ∧ K undef w'.heap) : ExecH P (do s; pure Next.skip) H K := fun w hw => by
  obtain ⟨w', hr, hs, hK⟩ := h w hw
  simp only [Sem.run_bind, hr, Result.andThen_ok, Sem.run_pure, Good]
  exact ⟨hs, hK⟩
theorem execH_V {s : Sem Value} (h : ExecV P s H K) : ExecH P (do pure (Next.value (← s))) H K := execH_v fun w hw => by
  have := h w hw
  generalize s.run P w = r at *
  cases r with
  | ok v w' => exact ⟨v, w', rfl, this.1, this.2⟩
  | halt x w' => exact this.elim
theorem stores_run : ∀ (vs : List Value) (i : Nat) (a : Addr) (H H' : Heap) (w : World), w.heap = H → storesH a i vs H = some H' →
    ∃ w', (storeCells a vs i).run P w = .ok () w' ∧ Same w w' ∧ w'.heap = H'
  | [], i, a, H, H', w, hw, h => by
    simp only [storesH, Option.some.injEq] at h
    subst h
    exact ⟨w, rfl, .refl w, hw⟩
  | v :: r, i, a, H, H', w, hw, h => by
    simp only [storesH] at h
    split at h <;> try contradiction
    rename_i hc
    simp only [Bool.and_eq_true, Bool.not_eq_true'] at hc
    obtain ⟨⟨h1, h2⟩, h3⟩ := hc
    have hrun : (store (a.add i) v).run P w = .ok () (w.setCell (a.add i) v) := by
      have h2' : (w.cell? (a.add i)).isSome := by rw [cellH_eq, hw]; exact h2
      have h3' : w.frozen? (a.add i) = false := by rw [frozenH_eq, hw]; exact h3
      obtain ⟨u, hu⟩ := Option.isSome_iff_exists.1 h2'
      cases v <;> simp [isOne] at h1 <;> simp [store, Sem.run, hu, h3']
    obtain ⟨w', hr, hs, hh⟩ := stores_run r (i + 1) a _ H' (w.setCell (a.add i) v) (by rw [setH_eq, hw]) h
    refine ⟨w', ?_, (Same.setCell w _ v).trans hs, hh⟩
    simp only [storeCells, Sem.run_bind, hrun, Result.andThen_ok]
    exact hr
theorem store1_sound {t : TypeId} {a v : Value} {H' : Heap} (ha : aggSize P t = some (1, false)) (h : store1V a v H = some H') (w : World) (hw : w.heap = H) :
    ∃ w', (Instr.storeAt t a v).run P w = .ok () w' ∧ Same w w' ∧ w'.heap = H' := by
  obtain ⟨i, hi, hs, _⟩ := aggSize_spec ha
  unfold store1V at h
  split at h <;> try contradiction
  rename_i p
  have h1 : isOne v = true := by
    simp only [storesH] at h
    split at h <;> try contradiction
    rename_i hc
    simp only [Bool.and_eq_true] at hc
    exact hc.1.1
  obtain ⟨w', hr, hsame, hh⟩ := stores_run (P := P) [v] 0 p H H' w hw h
  refine ⟨w', ?_, hsame, hh⟩
  have hc : v.cells = #[v] := by cases v <;> simp [isOne] at h1 <;> rfl
  simp [Instr.storeAt, Instr.sureAddr, storeVar, hc, run_sizeOf' hi, hs]
  exact hr
theorem storeN_sound {t : TypeId} {n : Nat} {a v : Value} {H' : Heap} (ha : aggSize P t = some (n, true)) (h : storeNV n a v H = some H') (w : World) (hw : w.heap = H) :
    ∃ w', (Instr.storeAt t a v).run P w = .ok () w' ∧ Same w w' ∧ w'.heap = H' := by
  obtain ⟨i, hi, hs, _⟩ := aggSize_spec ha
  unfold storeNV at h
  split at h <;> try contradiction
  rename_i p cs
  split at h <;> try contradiction
  rename_i hsz
  obtain ⟨w', hr, hsame, hh⟩ := stores_run (P := P) cs.toList 0 p H H' w hw h
  refine ⟨w', ?_, hsame, hh⟩
  simp [Instr.storeAt, Instr.sureAddr, storeVar, Value.cells, run_sizeOf' hi, hs, hsz]
  exact hr
theorem elems_run {size n : Nat} {x : Value} {l : List Value} (h : elemsV size n x H = some l) (w : World) (hw : w.heap = H) :
    (Builtin.firstCells size n x).run P w = .ok l.toArray w := by
  unfold elemsV at h
  split at h <;> try contradiction
  · simp only [Builtin.firstCells, loadCells]
    rw [cells_run (P := P) w hw _ _ _ #[] h]
    simp
  · cases h; rfl
  · cases h
    simp only [Builtin.firstCells, Array.toArray_toList]
    rfl
theorem count_run {x : Value} {n : Nat} (h : countV x = some n) (w : World) : (Builtin.lenOf x).run P w = .ok n w := by
  unfold countV at h
  split at h <;> try contradiction
  all_goals (cases h; rfl)
theorem storeRow_run {base : Option Addr} {off : Nat} {cs : List Value} {H' : Heap} (h : (match base with | some a => storesH (a.add off) 0 cs H | none => some H) = some H') (w : World) (hw : w.heap = H) :
    ∃ w', (do if let some a := base then storeCells (a.add off) cs : Sem Unit).run P w = .ok () w' ∧ Same w w' ∧ w'.heap = H' := by
  cases base with
  | none => simp only [Option.some.injEq] at h; subst h; exact ⟨w, rfl, .refl w, hw⟩
  | some a =>
    simp only [] at h
    exact stores_run cs 0 (a.add off) H H' w hw h
theorem cap_forced (need old : Nat) (e : TypeId) : (Question.appendCap need old e).forced = false := rfl
theorem cap_cut (need old : Nat) (e : TypeId) (t : Nat) : need ≤ (Question.appendCap need old e).cut t := Nat.le_add_right _ _
theorem same_draw (w : World) : Same w { w with drawn := w.drawn + 1 } := ⟨rfl, rfl, rfl⟩
theorem same_push (w : World) (o : Obj) : Same w { w with heap := w.heap.push o } := ⟨rfl, rfl, rfl⟩
theorem append_sound {st xt elem : TypeId} {type : TypeId} {d : TypeDesc} {i : TypeInfo} {z s x : Value} (hst : P.underlying st = some (.slice elem)) (hxt : P.underlying xt = some d) (hd : (∃ e, d = .slice e) ∨ d = .string)
    (hi : P.info? elem = some i) (hz : i.zero = some z) (h : Append elem i.size i.bytes z.cells s x H K) (ats : Array TypeId) (hats : ats.toList = [st, xt]) :
    ∀ w, w.heap = H → ∃ v w', (Builtin.append_ ats type #[s, x]).run P w = .ok v w' ∧ Same w w' ∧ K v w'.heap := by
  intro w hw
  obtain ⟨base, sLen, sCap, n, news, rfl, hn, hnews, hcase⟩ := h
  have ha : ats = #[st, xt] := by rw [← Array.toList_inj]; exact hats
  subst ha
  have hzero : ∀ w, (zeroValue elem).run P w = .ok z w := fun w => by simp [zeroValue, run_typeInfo' hi, hz]
  rcases hcase with ⟨hle, H', hst', hK⟩ | ⟨hgt, hbig, hcap, olds, holds, hK⟩
  · obtain ⟨w', hr, hs, hh⟩ := storeRow_run (P := P) (off := sLen * i.size) (by unfold storeRow at hst'; exact hst') w hw
    refine ⟨.slice base (sLen + n) sCap, w', ?_, hs, by rw [hh]; exact hK⟩
    unfold Builtin.append_
    rcases hd with ⟨e, rfl⟩ | rfl <;>
    · simp [run_underlying' hst, run_underlying' hxt, run_sizeOf' hi, count_run (P := P) hn, hle, elems_run (P := P) hnews w hw]
      cases base with
      | none => simp at hr; subst hr; simp
      | some a => simp at hr; simp [hr]
  · have hc := cap_cut (sLen + n) sCap elem (w.tape w.drawn (.appendCap (sLen + n) sCap elem))
    have hf := cap_forced (sLen + n) sCap elem
    generalize hceq : (Question.appendCap (sLen + n) sCap elem).cut (w.tape w.drawn (.appendCap (sLen + n) sCap elem)) = c at hc
    have e1 := elems_run (P := P) holds w.drew hw
    have e2 := elems_run (P := P) hnews w.drew hw
    refine ⟨.slice (some ⟨w.heap.size, 0, none⟩) (sLen + n) c,
      w.drew.alloc (.cells (olds.toArray ++ news.toArray ++ zeros z.cells (c - (sLen + n))) elem (0, 0)), ?_, (same_draw w).trans (same_push _ _), ?_⟩
    · have hnot : ¬ (sLen + n ≤ sCap) := by omega
      have hnb : ¬ (281474976710656 < Builtin.nextslicecap (sLen + n) sCap * i.bytes) := by simpa using hcap
      have hni : ¬ (9223372036854775807 < (sLen : Int) + n) := by omega
      unfold Builtin.append_
      rcases hd with ⟨e, rfl⟩ | rfl <;>
        simp [run_underlying' hst, run_underlying' hxt, run_sizeOf' hi, count_run (P := P) hn, hnot, run_typeInfo' hi, hzero, hnb, hni, e1, e2, hf, hceq, newRow, zeros, IntKind.max, IntKind.signed, IntKind.bits]
      all_goals simp only [← Array.append_assoc, List.append_toArray]
    · show K _ (w.heap.push _)
      rw [hw]
      exact hK c hc
theorem appendZ_sound {st xt elem : TypeId} {type : TypeId} {q : IntKind} {i : TypeInfo} {z s x : Value} (hst : P.underlying st = some (.slice elem)) (hxt : P.underlying xt = some (.int q))
    (hi : P.info? elem = some i) (hz : i.zero = some z) (h : AppendZ elem i.size i.bytes z.cells s x H K) (ats : Array TypeId) (hats : ats.toList = [st, xt]) :
    ∀ w, w.heap = H → ∃ v w', (Builtin.append_ ats type #[s, x]).run P w = .ok v w' ∧ Same w w' ∧ K v w'.heap := by
  intro w hw
  obtain ⟨base, sLen, sCap, n, rfl, rfl, hpos, hn63, hnb48, hgt, hbig, hcap, olds, holds, hK⟩ := h
  have ha : ats = #[st, xt] := by rw [← Array.toList_inj]; exact hats
  subst ha
  have hzero : ∀ w, (zeroValue elem).run P w = .ok z w := fun w => by simp [zeroValue, run_typeInfo' hi, hz]
  have hc := cap_cut (sLen + n) sCap elem (w.tape w.drawn (.appendCap (sLen + n) sCap elem))
  have hf := cap_forced (sLen + n) sCap elem
  generalize hceq : (Question.appendCap (sLen + n) sCap elem).cut (w.tape w.drawn (.appendCap (sLen + n) sCap elem)) = c at hc
  have e1 := elems_run (P := P) holds w.drew hw
  refine ⟨.slice (some ⟨w.heap.size, 0, none⟩) (sLen + n) c,
    w.drew.alloc (.cells (olds.toArray ++ zeros z.cells n ++ zeros z.cells (c - (sLen + n))) elem (0, 0)), ?_, (same_draw w).trans (same_push _ _), ?_⟩
  · have hnot : ¬ (sLen + n ≤ sCap) := by omega
    have hnb : ¬ (281474976710656 < Builtin.nextslicecap (sLen + n) sCap * i.bytes) := by omega
    have hni : ¬ (9223372036854775807 < (sLen : Int) + n) := by omega
    have hw64 : IntKind.i64.wrap (n : Int) = n := wrap_i64 (by omega) (by omega)
    have h0 : ¬ ((n : Int) < 0) := by omega
    have hb0 : ¬ (281474976710656 < (n : Int) * i.bytes) := by
      have h1 : ((n * i.bytes : Nat) : Int) ≤ ((281474976710656 : Nat) : Int) := Int.ofNat_le.2 (by simpa using hnb48)
      rw [Int.natCast_mul] at h1
      omega
    have hp0 : ¬ (n * i.size = 0) := by omega
    have hp1 : ¬ (n = 0 ∨ i.size = 0) := by
      rintro (h | h) <;> simp [h] at hpos
    unfold Builtin.append_
    simp [run_underlying' hst, run_underlying' hxt, run_sizeOf' hi, hnot, run_typeInfo' hi, hzero, hnb, hni, e1, hf, hceq, newRow, zeros, IntKind.max, IntKind.signed, IntKind.bits, asInt, asIntOf, hw64, h0, hb0, hp0, hp1]
  · show K _ (w.heap.push _)
    rw [hw]
    exact hK c hc
theorem copy_sound {st elem : TypeId} {type : TypeId} {i : TypeInfo} {s x : Value} (hst : P.underlying st = some (.slice elem))
    (hi : P.info? elem = some i) (h : Copy i.size s x H K) (ats : Array TypeId) (rest : List TypeId) (hats : ats.toList = st :: rest) :
    ∀ w, w.heap = H → ∃ v w', (Builtin.copy_ ats type #[s, x]).run P w = .ok v w' ∧ Same w w' ∧ K v w'.heap := by
  intro w hw
  obtain ⟨base, dLen, dCap, n, cs, rfl, hn, hcs, H', hst', hK⟩ := h
  have ha : ats[0]? = some st := by rw [← Array.getElem?_toList, hats]; rfl
  have key : ∃ w', (match base with | some a => storeCells a cs | none => pure () : Sem Unit).run P w = .ok () w' ∧ Same w w' ∧ w'.heap = H' := by
    cases base with
    | none => simp only [Option.some.injEq] at hst'; subst hst'; exact ⟨w, rfl, .refl w, hw⟩
    | some a => exact stores_run cs 0 a H H' w hw hst'
  obtain ⟨w', hr, hs, hh⟩ := key
  refine ⟨.int .i64 (Nat.min n dLen : Nat), w', ?_, hs, by rw [hh]; exact hK⟩
  unfold Builtin.copy_
  have e1 := elems_run (P := P) hcs w hw
  simp only [Nat.min_def] at e1 hr ⊢
  simp [ha, run_underlying' hst, run_sizeOf' hi, count_run (P := P) hn, e1, goInt]
  cases base with
  | none => simp at hr; subst hr; simp
  | some a => simp at hr; simp [hr]
theorem mark_run {P : Program} (a : Addr) (wx : World) (cs : Array Value) (e : TypeId) (hb : wx.heap[a.block]? = some (.cells cs e (0, 0))) : (markStringish a).run P wx = .ok () { wx with heap := wx.heap.setIfInBounds a.block (.cells cs e (cs.size, cs.size + 1)) } := by
  have hs : wx.shape? a.block = some (e, cs.size) := by simp [World.shape?, hb]
  simp only [markStringish, Sem.run_bind, run_shape, Result.andThen_ok, hs]
  show Result.ok () (wx.freeze _ 1) = _
  unfold World.freeze
  rw [if_neg (by decide)]
  congr 1
  congr 1
  apply Array.ext_getElem?
  intro k
  rw [Array.getElem?_modify, Array.getElem?_setIfInBounds]
  by_cases hk : a.block = k
  · subst hk
    have hlt : a.block < wx.heap.size := (Array.getElem?_eq_some_iff.1 hb).1
    rw [if_pos rfl, if_pos rfl, if_pos hlt, hb]
    rfl
  · rw [if_neg hk, if_neg hk]
theorem toBytes_sound {e : TypeId} {s : ByteArray} (h : ∀ c, s.size ≤ c →
    K (.slice (some ⟨H.size, 0, none⟩) s.size c) (H.push (.cells ((s.data.map fun b => .int .u8 b.toNat) ++ Array.replicate (c - s.size) (.int .u8 0)) e (c, c + 1)))) :
    ∀ w, w.heap = H → ∃ v w', (Conv.stringToBytes e s).run P w = .ok v w' ∧ Same w w' ∧ K v w'.heap := by
  intro w hw
  have hc := cap_cut s.size 0 e (w.tape w.drawn (.appendCap s.size 0 e))
  have hf := cap_forced s.size 0 e
  generalize hceq : (Question.appendCap s.size 0 e).cut (w.tape w.drawn (.appendCap s.size 0 e)) = c at hc
  refine ⟨.slice (some ⟨w.heap.size, 0, none⟩) s.size c, { w.drew with heap := w.heap.push (.cells ((s.data.map fun b => .int .u8 b.toNat) ++ Array.replicate (c - s.size) (.int .u8 0)) e (c, c + 1)) }, ?_, ⟨rfl, rfl, rfl⟩, ?_⟩
  · have hrow : ∀ (wx : World) (cs : Array Value), (newRow e cs).run P wx = .ok ⟨wx.heap.size, 0, none⟩ { wx with heap := wx.heap.push (.cells cs e (0, 0)) } := fun wx cs => rfl
    have hch : (choose (.appendCap s.size 0 e)).run P w = .ok c w.drew := by
      simp only [choose, Sem.run, hf]
      rw [← hceq]
      rfl
    have hmark : ∀ (wx : World) (cs : Array Value) (b : Nat), wx.heap[b]? = some (.cells cs e (0, 0)) → (markStringish ⟨b, 0, none⟩).run P wx = .ok () { wx with heap := wx.heap.setIfInBounds b (.cells cs e (cs.size, cs.size + 1)) } := fun wx cs b hb => by
      have hs : wx.shape? b = some (e, cs.size) := by simp [World.shape?, hb]
      simp only [markStringish, Sem.run_bind, run_shape, Result.andThen_ok, hs]
      show Result.ok () (wx.freeze _ 1) = _
      unfold World.freeze
      rw [if_neg (by decide)]
      congr 1
      congr 1
      apply Array.ext_getElem?
      intro k
      rw [Array.getElem?_modify, Array.getElem?_setIfInBounds]
      by_cases hk : b = k
      · subst hk
        have hlt : b < wx.heap.size := (Array.getElem?_eq_some_iff.1 hb).1
        rw [if_pos rfl, if_pos rfl, if_pos hlt, hb]
        rfl
      · rw [if_neg hk, if_neg hk]
    simp only [Conv.stringToBytes, Sem.run_bind, hch, Result.andThen_ok, hrow]
    rw [hmark _ ((s.data.map fun b : UInt8 => Value.int .u8 b.toNat) ++ Array.replicate (c - s.size) (Value.int .u8 0)) _ (by rw [show w.drew.heap = w.heap from rfl]; simp)]
    simp only [Result.andThen_ok, Sem.run_pure]
    have hsz : ((s.data.map fun b : UInt8 => (Value.int .u8 b.toNat)) ++ Array.replicate (c - s.size) (Value.int .u8 0)).size = c := by
      have : s.data.size = s.size := rfl
      simp only [Array.size_append, Array.size_map, Array.size_replicate]
      omega
    rw [hsz]
    congr 2
    apply Array.ext_getElem?
    intro k
    simp only [Array.getElem?_setIfInBounds, Array.getElem?_push, Array.size_push]
    show (if w.heap.size = k then _ else _) = _
    by_cases hk : w.heap.size = k
    · subst hk; simp
    · rw [if_neg hk, if_neg (fun e => hk e.symm), if_neg (fun e => hk e.symm)]; rfl
  · show K _ (w.heap.push _)
    rw [hw]
    exact h c hc
theorem makeSlice_sound {t elem : TypeId} {i : TypeInfo} {z l c : Value} (hst : P.underlying t = some (.slice elem)) (hi : P.info? elem = some i) (hz : i.zero = some z)
    (h : MakeSlice elem i.size i.bytes z.cells l c H K) : ∀ w, w.heap = H → ∃ v w', (Instr.makeSlice t l c).run P w = .ok v w' ∧ Same w w' ∧ K v w'.heap := by
  intro w hw
  obtain ⟨kl, kc, n, m, rfl, rfl, hle, hb, hm, hK⟩ := h
  refine ⟨.slice (some ⟨w.heap.size, 0, none⟩) n m, { w with heap := w.heap.push (.cells ((Array.range (m * i.size)).map (z.cells[· % z.cells.size]!)) elem (0, 0)) }, ?_, same_push _ _, ?_⟩
  · have hzero : ∀ w, (zeroValue elem).run P w = .ok z w := fun w => by simp [zeroValue, run_typeInfo' hi, hz]
    have hwr : ∀ k : Nat, k < 2 ^ 63 → IntKind.i64.wrap (k : Int) = k := fun k hk => wrap_i64 (by omega) (by omega)
    have h1 := hwr n (by omega)
    have h2 := hwr m hm
    have hbi : ¬ ((i.bytes : Int) * (m : Int) > 2 ^ 48) := by exact_mod_cast Nat.not_lt.2 hb
    have hnn : ¬ ((n : Int) < 0) := by omega
    have hmm : ¬ ((m : Int) < 0) := by omega
    have hnm : ¬ ((n : Int) > (m : Int)) := by omega
    unfold Instr.makeSlice
    simp only [Sem.run_bind, run_underlying' hst, asInt, asIntOf, Sem.run_pure, Result.andThen_ok, run_typeInfo' hi, h1, h2, hbi, hnn, hmm, hnm, decide_false, Bool.or_self, Bool.false_eq_true, if_false, run_askRoom, Int.toNat_natCast, run_sizeOf' hi]
    by_cases h0 : m * i.size = 0
    · simp [h0, newRow]
      rw [show Array.range 0 = #[] from rfl]; simp
    · simp [h0, newRow, hzero]
  · show K _ (w.heap.push _)
    rw [hw]
    exact hK
theorem hasBody_run {f : FuncId} {args : Array Value} (hb : hasBody P f = true) (w : World) : (callFunc f args).run P w = .ok (.enter f args) w := by
  unfold hasBody at hb
  split at hb <;> try contradiction
  rename_i fn hf
  simp only [Bool.and_eq_true, Bool.not_eq_true'] at hb
  have h2 : fn.body.isNone = false := by rw [Option.isNone_eq_false_iff]; exact hb.2
  simp only [callFunc, Sem.run_bind, run_program, Result.andThen_ok, hf, hb.1, h2, Bool.false_eq_true, if_false, Sem.run_pure]
theorem execH_call {f : FuncId} {args : Array Value} {s : Sem Next} (h : CallsH P f args H K) (hr : ∀ w, w.heap = H → s.run P w = .ok (.enter f args) w) : ExecH P s H K := fun w hw => by
  rw [hr w hw]
  simp only [Good]
  exact ⟨.refl w, by rw [hw]; exact h⟩
theorem method_run {t : TypeId} {name : String} {f : FuncId} (x : Value) (n : Nat) (h : methodRes P t name = some f) (w : World) : (method (n + 1) t x name).run P w = .ok (f, x) w := by
  unfold methodRes at h
  split at h <;> try contradiction
  rename_i i hi
  split at h <;> try contradiction
  rename_i m hm
  have key : ∀ (g : FuncId) (ptr : Bool) (d : TypeDesc), m.path.isEmpty = true → m.func = some (g, ptr) → P.underlying t = some d → ((ptr = true ∧ ∃ e, d = .pointer e) ∨ (ptr = false ∧ ∀ e, d ≠ .pointer e)) →
      (method (n + 1) t x name).run P w = .ok (g, x) w := by
    intro g ptr d hp hf hd hcase
    have hpl : m.path.toList = [] := by simpa using hp
    have hr : ∀ wn, (receiverAt t (.val x) ptr wn).run P w = .ok x w := fun wn => by
      rcases hcase with ⟨rfl, e, rfl⟩ | ⟨rfl, hne⟩
      · simp [receiverAt, run_underlying' hd, Place.get]
      · simp only [receiverAt, Sem.run_bind, run_underlying' hd, Result.andThen_ok]
        cases d <;> first | rfl | exact absurd rfl (hne _)
    simp only [method, Sem.run_bind, run_typeInfo' hi, Result.andThen_ok, hm, hpl, follow, Sem.run_pure, hf, hr]
  split at h <;> try contradiction
  · rename_i g e hp hf hd
    cases h
    exact key _ _ _ hp hf hd (.inl ⟨rfl, _, rfl⟩)
  · rename_i g d hn hp hf hd
    cases h
    exact key _ _ _ hp hf hd (.inr ⟨rfl, fun e he => hn _ he⟩)
theorem depth_pos : ∃ n, P.types.size + Made.depth = n + 1 := ⟨P.types.size + (Made.depth - 1), rfl⟩
theorem fill_eq (place : Nat → Option (Nat × Nat)) (zero : Array Value) (parts : Array (Nat × Operand)) :
    Instr.fill place zero (parts.map fun (i, x) => (i, ev x)).toList = Instr.fill place zero (parts.toList.map fun p => (p.1, ev p.2)) := by
  rw [Array.toList_map]
theorem effP_sound (hevf : ∀ f, ev (.func f) = .func (.func f) #[] #[]) (h : effP P ev o H K) : ExecH P (execOp ev o) H K := by
  obtain ⟨dst, op, type, pos, after, guard⟩ := o
  unfold execOp
  cases op <;> simp only [effP] at h <;> try contradiction
  case store t a x =>
    split at h <;> try contradiction
    · rename_i n ha
      obtain ⟨H', hs, hK⟩ := h
      exact execH_u fun w hw => by
        obtain ⟨w', hr, hs, hh⟩ := storeN_sound ha hs w hw
        exact ⟨w', hr, hs, by rw [hh]; exact hK⟩
    · rename_i ha
      obtain ⟨H', hs, hK⟩ := h
      exact execH_u fun w hw => by
        obtain ⟨w', hr, hs, hh⟩ := store1_sound ha hs w hw
        exact ⟨w', hr, hs, by rw [hh]; exact hK⟩
  case alloc t =>
    split at h <;> try contradiction
    rename_i z hz
    cases hi : P.info? t with
    | none => simp [hi] at hz
    | some i =>
      simp only [hi, Option.bind_some] at hz
      refine execH_v fun w hw => ⟨.pointer (some ⟨w.heap.size, 0, none⟩), { w with heap := w.heap.push (.cells z.cells t (0, 0)) }, ?_, same_push _ _, ?_⟩
      · simp only [Instr.alloc, Sem.run_bind, zeroValue, run_typeInfo' hi, Result.andThen_ok, hz, Sem.run_pure]
        rfl
      · show K _ (w.heap.push _)
        rw [hw]
        exact h
  case box t x =>
    refine execH_v fun w hw => ⟨.pointer (some ⟨w.heap.size, 0, none⟩), { w with heap := w.heap.push (.cells (ev x).cells t (0, 0)) }, rfl, same_push _ _, ?_⟩
    show K _ (w.heap.push _)
    rw [hw]
    exact h
  case buildSlice t len parts =>
    split at h <;> try contradiction
    rename_i e ht
    split at h <;> try contradiction
    rename_i i hi
    split at h <;> try contradiction
    rename_i z hz
    split at h <;> try contradiction
    rename_i hne
    obtain ⟨cs, hf, hK⟩ := h
    refine execH_v fun w hw => ⟨.slice (some ⟨w.heap.size, 0, none⟩) len len, { w with heap := w.heap.push (.cells cs e (0, 0)) }, ?_, same_push _ _, ?_⟩
    · have hzero : ∀ w, (zeroValue e).run P w = .ok z w := fun w => by simp [zeroValue, run_typeInfo' hi, hz]
      by_cases h0 : len * i.size = 0
      · have hmap : ∀ zz : Array Value, (Array.range (len * i.size)).map (zz[· % zz.size]!) = #[] := fun zz => by rw [h0]; simp
        have hm0 : ∀ zz : Array Value, (Array.range 0).map (zz[· % zz.size]!) = #[] := fun zz => by simp
        rw [hmap] at hf
        rw [h0] at hne
        simp only [Instr.buildSlice, Sem.run_bind, run_underlying' ht, Result.andThen_ok, run_sizeOf' hi, h0, hne, if_true, if_false, Sem.run_pure, hm0, fill_eq, hf]
        rfl
      · simp only [Instr.buildSlice, Sem.run_bind, run_underlying' ht, Result.andThen_ok, run_sizeOf' hi, h0, hne, if_false, hzero, Sem.run_pure, fill_eq, hf]
        rfl
    · show K _ (w.heap.push _)
      rw [hw]
      exact hK
  case makeMap t r =>
    cases r with
    | some hv =>
      simp only [] at h
      split at h <;> try contradiction
      rename_i hu
      unfold NewMapH at h
      split at h <;> try contradiction
      rename_i k n hk
      refine execH_v fun w hw => ⟨.map (some w.heap.size), { w with heap := w.heap.push (.map #[] 0) }, ?_, same_push _ _, ?_⟩
      · simp [Instr.makeMap, run_underlying hu, hk, asInt, asIntOf, newObj, Sem.run]
      · show K _ (w.heap.push _)
        rw [hw]
        exact h
    | none =>
    simp only [] at h
    refine execH_v fun w hw => ⟨.map (some w.heap.size), { w with heap := w.heap.push (.map #[] 0) }, rfl, same_push _ _, ?_⟩
    show K _ (w.heap.push _)
    rw [hw]
    exact h
  case makeSlice t l c =>
    split at h <;> try contradiction
    rename_i e ht
    split at h <;> try contradiction
    rename_i i hi
    split at h <;> try contradiction
    rename_i z hz
    exact execH_v (makeSlice_sound ht hi hz h)
  case convert s d x =>
    split at h
    rotate_left
    · rename_i hc
      unfold convRes at hc
      split at hc <;> try contradiction
      all_goals (split at hc <;> try contradiction)
      rename_i hd e0 hs0 heq he
      have hsd : (s == d) = true := by assumption
      have hus : ∃ e1, P.underlying s = some (.slice e1) := ⟨_, by assumption⟩
      obtain ⟨e1, hs1⟩ := hus
      obtain ⟨a, n, c, cs, t, hx, hb, hK⟩ := h
      refine execH_v fun w hw => ?_
      subst hw
      refine ⟨ev x, { w with heap := w.heap.setIfInBounds a.block (.cells cs t (cs.size, cs.size + 1)) }, ?_, ⟨rfl, rfl, rfl⟩, hK⟩
      have hm := mark_run (P := P) a w cs t hb
      simp only [convert, Sem.run_bind, run_underlying' hs1, run_underlying' hd, Result.andThen_ok, hx, hsd, run_underlying' he]
      rw [hm]
      rfl
    · exact execH_V h
    rename_i e hc
    unfold convRes at hc
    split at hc <;> try contradiction
    all_goals (split at hc <;> try contradiction)
    cases hc
    have hs : P.underlying s = some .string := by assumption
    have hd : P.underlying d = some (.slice e) := by assumption
    have he : P.underlying e = some (.int .u8) := by assumption
    obtain ⟨sv, hx, hK⟩ := h
    refine execH_v fun w hw => ?_
    obtain ⟨v, w', hr, hs', hk⟩ := toBytes_sound (P := P) (e := e) (s := sv) hK w hw
    refine ⟨v, w', ?_, hs', hk⟩
    simp only [convert, Sem.run_bind, run_underlying' hs, run_underlying' hd, Result.andThen_ok, hx, run_underlying' he]
    exact hr
  case binOp op t x y yt => exact execH_V h
  case lookup t x i ok => exact execH_V h
  case mapUpdate t m k x =>
    intro w hw
    have := h w hw
    simp only [Sem.run_bind, Sem.run_pure] at this ⊢
    cases hr : (Instr.mapUpdate t (ev m) (ev k) (ev x)).run P w with
    | ok u w' =>
      simp only [hr, Result.andThen_ok, Good] at this ⊢
      exact this
    | halt u w' => simp [hr] at this
  case range t x => exact execH_V h
  case next it s => exact execH_V h
  case entry it => exact execH_V h
  case typeAssert x xt a ok => exact execH_V h
  case call c =>
    obtain ⟨callee, args, argTypes⟩ := c
    cases callee <;> simp only [] at h
    case value f =>
      split at h
      · rename_i f
        split at h
        · rename_i hb
          refine execH_call h fun w hw => ?_
          simp only [resolve, Deferred.ofValue, Sem.run_bind, hevf, Sem.run_pure, Result.andThen_ok, invoke, Array.append_empty, Array.empty_append]
          exact hasBody_run hb w
        · obtain ⟨fn, e, hf, hn, hbody, hx, he, hrun⟩ := h
          intro w hw
          have h1 := hrun w hw
          have hx' : Extern.findNext fn = none := by simpa using hx
          have h2 : (callFunc f (args.map ev)).run P w = ((e (args.map ev)).run P w).andThen fun v w' => .ok (.value v) w' := by
            simp only [callFunc, Sem.run_bind, run_program, Result.andThen_ok, hf, hn, hbody, Option.isNone_none, if_true, Bool.false_eq_true, if_false, run_mark, hx', he, Sem.run_pure]
          simp only [resolve, Deferred.ofValue, Sem.run_bind, hevf, Sem.run_pure, Result.andThen_ok, invoke, Array.append_empty, Array.empty_append, h2]
          cases hr : (e (args.map ev)).run P w with
          | ok v w' => rw [hr] at h1; exact h1
          | halt x w' => rw [hr] at h1; exact h1.elim
      · obtain ⟨g, first, cap, hv, hb, hc⟩ := h
        refine execH_call hc fun w hw => ?_
        simp only [resolve, Deferred.ofValue, Sem.run_bind, hv, Sem.run_pure, Result.andThen_ok, invoke]
        exact hasBody_run hb w
    case invoke r name =>
      obtain ⟨t, x, f, hv, hm, hb, hc⟩ := h
      refine execH_call hc fun w hw => ?_
      obtain ⟨n, hn⟩ := depth_pos (P := P)
      simp only [resolve, Sem.run_bind, hv, Sem.run_pure, Result.andThen_ok, invoke]
      have e0 : (#[Value.iface t x] ++ args.map ev)[0]? = some (.iface t x) := by simp [Array.getElem?_append]
      have e1 : (#[Value.iface t x] ++ args.map ev).extract 1 (#[Value.iface t x] ++ args.map ev).size = args.map ev := by simp
      simp only [e0, e1, callMethod, Sem.run_bind, run_program, Result.andThen_ok, hn, method_run (P := P) x n hm]
      exact hasBody_run hb w
    case builtin b =>
      have hb : ∀ (s : Sem Value), (∀ cs, builtin b argTypes type cs (args.map ev) = (do pure (.value (← s)))) → ExecH P (do pure (Next.value (← s))) H K →
          ExecH P (do let d ← resolve ev ⟨.builtin b, args, argTypes⟩ type; invoke d.target d.args) H K := fun s h1 h2 w hw => by
        have := h2 w hw
        simp only [resolve, invoke, h1, Sem.run_bind, Sem.run_pure, Result.andThen_ok]
        simp only [Sem.run_bind, Sem.run_pure] at this
        exact this
      split at h <;> try contradiction
      · rename_i s x st xt ha hat
        have e1 : args.map ev = #[ev s, ev x] := by rw [← Array.toList_inj]; simp [ha]
        split at h <;> try contradiction
        · rename_i e e' hst hxt
          split at h <;> try contradiction
          rename_i i hi
          split at h <;> try contradiction
          rename_i z hz
          exact hb (Builtin.append_ argTypes type #[ev s, ev x]) (fun cs => by simp only [builtin, e1]) (execH_v (append_sound hst hxt (.inl ⟨_, rfl⟩) hi hz h _ hat))
        · rename_i e hst hxt
          split at h <;> try contradiction
          rename_i i hi
          split at h <;> try contradiction
          rename_i z hz
          exact hb (Builtin.append_ argTypes type #[ev s, ev x]) (fun cs => by simp only [builtin, e1]) (execH_v (append_sound hst hxt (.inr rfl) hi hz h _ hat))
        · rename_i e q hst hxt
          split at h <;> try contradiction
          rename_i i hi
          split at h <;> try contradiction
          rename_i z hz
          exact hb (Builtin.append_ argTypes type #[ev s, ev x]) (fun cs => by simp only [builtin, e1]) (execH_v (appendZ_sound hst hxt hi hz h _ hat))
      · rename_i s x st rest ha hat
        have e1 : args.map ev = #[ev s, ev x] := by rw [← Array.toList_inj]; simp [ha]
        split at h <;> try contradiction
        rename_i e hst
        split at h <;> try contradiction
        rename_i i hi
        exact hb (Builtin.copy_ argTypes type #[ev s, ev x]) (fun cs => by simp only [builtin, e1]) (execH_v (copy_sound hst hi h _ _ hat))
      · rename_i x t rest ha hat
        have e1 : args.map ev = #[ev x] := by rw [← Array.toList_inj]; simp [ha]
        exact hb (Builtin.len_ argTypes type #[ev x]) (fun cs => by simp only [builtin, e1]) (execH_V h)
      · rename_i x t rest ha hat
        have e1 : args.map ev = #[ev x] := by rw [← Array.toList_inj]; simp [ha]
        exact hb (Builtin.unsafeSliceData_ argTypes type #[ev x]) (fun cs => by simp only [builtin, e1]) (execH_V h)
      · rename_i x n t rest ha hat
        have e1 : args.map ev = #[ev x, ev n] := by rw [← Array.toList_inj]; simp [ha]
        exact hb (Builtin.unsafeString_ argTypes type #[ev x, ev n]) (fun cs => by simp only [builtin, e1]) (execH_V h)
      · rename_i m k t rest ha hat
        have e1 : args.map ev = #[ev m, ev k] := by rw [← Array.toList_inj]; simp [ha]
        exact hb (Builtin.delete_ argTypes type #[ev m, ev k]) (fun cs => by simp only [builtin, e1]) (execH_V h)
theorem bytes_for (f : Value → ByteArray → Sem (ForInStep ByteArray)) (hf : ∀ n acc, f (.int .u8 n) acc = pure (.yield (acc.push (UInt8.ofNat n.toNat)))) :
    ∀ (l : List Value) (bs : List UInt8) (acc : ByteArray) (w : World), bytesOfCells l = some bs → (forIn l acc f).run P w = .ok ⟨acc.data ++ bs.toArray⟩ w
  | [], bs, acc, w, h => by simp only [bytesOfCells, Option.some.injEq] at h; subst h; simp
  | v :: r, bs, acc, w, h => by
    simp only [bytesOfCells] at h
    split at h <;> try contradiction
    rename_i b hb
    cases hr : bytesOfCells r with
    | none => simp [hr] at h
    | some bs' =>
      simp only [hr, Option.map_some, Option.some.injEq] at h
      subst h
      unfold toByte? at hb
      split at hb <;> try contradiction
      cases hb
      simp only [List.forIn_cons, hf, Sem.run_bind, Sem.run_pure, Result.andThen_ok]
      rw [bytes_for f hf r bs' _ w hr]
      simp [ByteArray.push]
theorem bytes_sound {x v : Value} (h : bytesV x H = some v) (w : World) (hw : w.heap = H) : (Conv.bytesToString x).run P w = .ok v w := by
  unfold bytesV at h
  split at h <;> try contradiction
  · cases h; rfl
  · split at h <;> try contradiction
    rename_i a len cap l hl
    cases hb : bytesOfCells l with
    | none => simp [hb] at h
    | some bs =>
      simp only [hb, Option.map_some, Option.some.injEq] at h
      subst h
      have e1 := cells_run (P := P) w hw _ _ _ #[] hl
      simp only [Conv.bytesToString, loadCells, Sem.run_bind, e1, Result.andThen_ok, Array.empty_append, List.forIn_toArray]
      rw [bytes_for (P := P) _ (fun n acc => rfl) l bs .empty w hb]
      simp
      try rfl
theorem readV_sound {v : Value} (h : readV P ev H o = some v) (w : World) (hw : w.heap = H) : (execOp ev o).run P w = .ok (.value v) w := by
  obtain ⟨dst, op, type, pos, after, guard⟩ := o
  unfold execOp
  cases op <;> simp only [readV] at h <;> try contradiction
  case load t a =>
    refine run_v _ _ _ ?_
    split at h <;> try contradiction
    · rename_i n ha; exact loadN_sound ha h w hw
    · rename_i n ha; exact load1_sound ha h w hw
  case convert s d x =>
    refine run_v _ _ _ ?_
    split at h <;> try contradiction
    rename_i hc
    unfold convRes at hc
    split at hc <;> try contradiction
    all_goals (split at hc <;> try contradiction)
    have hs : ∃ e, P.underlying s = some (.slice e) ∧ P.underlying e = some (.int .u8) := ⟨_, by assumption, by assumption⟩
    obtain ⟨e, hs, he⟩ := hs
    have hd : P.underlying d = some .string := by assumption
    have := bytes_sound (P := P) h w hw
    simp only [convert, Sem.run_bind, run_underlying' hs, run_underlying' hd, Result.andThen_ok]
    have hx : ∃ a l c, ev x = .slice a l c := by
      unfold bytesV at h
      split at h <;> try contradiction
      all_goals exact ⟨_, _, _, by assumption⟩
    obtain ⟨a, l, c, hx⟩ := hx
    simp only [hx, run_underlying' he, Sem.run_bind, Result.andThen_ok] at this ⊢
    exact this
end
end Go.Cps
