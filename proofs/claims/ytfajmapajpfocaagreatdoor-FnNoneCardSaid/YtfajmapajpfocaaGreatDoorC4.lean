/-
  Operations that write, make memory, or call: what they come to at heap level; they run so.
  Conditions: none.
-/
import Derived.Test.YtfajmapajpfocaaGreatDoorC3
set_option linter.all false
namespace Go.Cps
open Go

def Get {α : Type} (o : Option α) (K : α → Prop) : Prop := ∃ v, o = some v ∧ K v
def New (o : Obj) (H : Heap) (K : Value → Heap → Prop) : Prop := K (.pointer (some ⟨H.size, 0, none⟩)) (H.push o)
def ExecV (P : Program) (s : Sem Value) (H : Heap) (K : Value → Heap → Prop) : Prop :=
  ∀ w, w.heap = H → match s.run P w with
    | .ok v w' => Same w w' ∧ K v w'.heap
    | .halt _ _ => False

def store1V (a v : Value) (H : Heap) : Option Heap := match a with | .pointer (some p) => storesH p 0 [v] H | _ => none
def storeNV (n : Nat) (a v : Value) (H : Heap) : Option Heap :=
  match a, v with
  | .pointer (some p), .agg cs => if cs.size = n then storesH p 0 cs.toList H else none
  | _, _ => none

def zeros (zero : Array Value) (n : Nat) : Array Value := Builtin.zeroCells zero n

/-- the first n elements of a slice -/
def elemsV (size n : Nat) (x : Value) (H : Heap) : Option (List Value) :=
  match x with
  | .slice (some a) _ _ => cellsH H a 0 (n * size)
  | .slice none _ _ => some []
  | .string s => some (((s.extract 0 n).data.map fun b => .int .u8 b.toNat).toList)
  | _ => none
def countV (x : Value) : Option Nat := match x with | .slice _ n _ => some n | .string s => some s.size | _ => none

def storeRow (size n : Nat) (base : Option Addr) (cs : List Value) (H : Heap) : Option Heap :=
  match base with
  | some a => storesH (a.add (n * size)) 0 cs H
  | none => some H

/-- append of a slice or a string -/
def Append (elem size bytes : Nat) (zero : Array Value) (s x : Value) (H : Heap) (K : Value → Heap → Prop) : Prop :=
  ∃ base sLen sCap n news, s = .slice base sLen sCap ∧ countV x = some n ∧ elemsV size n x H = some news ∧
    ((sLen + n ≤ sCap ∧ Get (storeRow size sLen base news H) fun H' => K (.slice base (sLen + n) sCap) H') ∨
     (sCap < sLen + n ∧ sLen + n < 2 ^ 63 ∧ Builtin.nextslicecap (sLen + n) sCap * bytes ≤ 2 ^ 48 ∧ ∃ olds, elemsV size sLen s H = some olds ∧
        ∀ c, sLen + n ≤ c → K (.slice (some ⟨H.size, 0, none⟩) (sLen + n) c) (H.push (.cells (olds.toArray ++ news.toArray ++ zeros zero (c - (sLen + n))) elem (0, 0)))))

/-- copy of a slice or a string -/
def Copy (size : Nat) (d x : Value) (H : Heap) (K : Value → Heap → Prop) : Prop :=
  ∃ base dLen dCap n cs, d = .slice base dLen dCap ∧ countV x = some n ∧ elemsV size (Nat.min n dLen) x H = some cs ∧
    Get (match base with | some a => storesH a 0 cs H | none => some H) fun H' => K (.int .i64 (Nat.min n dLen : Nat)) H'

/-- a string's bytes in a new row -/
def ToBytes (elem : Nat) (x : Value) (H : Heap) (K : Value → Heap → Prop) : Prop :=
  ∃ s : ByteArray, x = .string s ∧ ∀ c, s.size ≤ c →
    K (.slice (some ⟨H.size, 0, none⟩) s.size c) (H.push (.cells ((s.data.map fun b => .int .u8 b.toNat) ++ Array.replicate (c - s.size) (.int .u8 0)) elem (c, c + 1)))

def MakeSlice (elem size bytes : Nat) (zero : Array Value) (l c : Value) (H : Heap) (K : Value → Heap → Prop) : Prop :=
  ∃ (kl kc : IntKind) (n m : Nat), l = .int kl n ∧ c = .int kc m ∧ n ≤ m ∧ bytes * m ≤ 2 ^ 48 ∧ m < 2 ^ 63 ∧
    K (.slice (some ⟨H.size, 0, none⟩) n m) (H.push (.cells ((Array.range (m * size)).map (zero[· % zero.size]!)) elem (0, 0)))

def hasBody (P : Program) (f : FuncId) : Bool :=
  match P.funcs[f]? with
  | some fn => !(fn.name == "runtime.NumGoroutine") && fn.body.isSome
  | none => false

/-- a call of a function of the library's that has no body -/
def CallX (P : Program) (f : FuncId) (args : Array Value) (H : Heap) (K : Value → Heap → Prop) : Prop :=
  ∃ fn e, P.funcs[f]? = some fn ∧ (fn.name == "runtime.NumGoroutine") = false ∧ fn.body = none ∧ (Extern.findNext fn).isNone = true ∧ Extern.find fn = some e ∧ ExecV P (e args) H K

/-- a call of a function value -/
def CallV (P : Program) (fv : Value) (args : Array Value) (H : Heap) (K : Value → Heap → Prop) : Prop :=
  ∃ f first cap, fv = .func (.func f) first cap ∧ hasBody P f = true ∧ CallsH P f (first ++ args ++ cap) H K

/-- the method of a dynamic type, by its own row in the type's table -/
def methodRes (P : Program) (t : TypeId) (name : String) : Option FuncId :=
  match P.info? t with
  | some i => match i.methods.find? (·.name == name) with
    | some m => match m.path.isEmpty, m.func, P.underlying t with
      | true, some (f, true), some (.pointer _) => some f
      | true, some (_, false), some (.pointer _) => none
      | true, some (f, false), some _ => some f
      | _, _, _ => none
    | none => none
  | none => none

/-- a call of an interface's method -/
def Invoke (P : Program) (name : String) (recv : Value) (args : Array Value) (H : Heap) (K : Value → Heap → Prop) : Prop :=
  ∃ t x f, recv = .iface t x ∧ methodRes P t name = some f ∧ hasBody P f = true ∧ CallsH P f (#[x] ++ args) H K

inductive Kind where
  | pure | read | eff

def isLenLike : Builtin → Bool
  | .len | .cap | .min | .max => true
  | _ => false

def lenType (P : Program) : List TypeId → Bool
  | t :: _ => match P.underlying t with | some (.slice _) | some .string | some (.int _) => true | _ => false
  | [] => false

def kindOf (P : Program) (o : Oper) : Kind :=
  match o.op with
  | .move _ | .assign _ | .pick _ _ _ | .nilCheck _ | .unOp _ _ _ | .fieldAddr _ _ _ | .field _ _ _ | .indexAddr _ _ _ | .index _ _ _ | .extract _ _
  | .slice _ _ _ _ _ | .makeInterface _ _ | .makeFunc _ _ _ | .build _ _ => .pure
  | .load _ _ => .read
  | .binOp op t x y _ => match binRes P op t x y with | .no => .eff | _ => .pure
  | .convert s d _ => match convRes P s d with | .int _ | .str => .pure | .bytes => .read | _ => .eff
  | .call ⟨.builtin b, _, ts⟩ => if isLenLike b && lenType P ts.toList then .pure else .eff
  | _ => .eff

def effP (P : Program) (ev : Operand → Value) (o : Oper) (H : Heap) (K : Value → Heap → Prop) : Prop :=
  match o.op with
  | .store t a x => match aggSize P t with
    | some (n, true) => Get (storeNV n (ev a) (ev x) H) fun H' => K undef H'
    | some (1, false) => Get (store1V (ev a) (ev x) H) fun H' => K undef H'
    | _ => False
  | .alloc t => match (P.info? t).bind (·.zero) with
    | some z => New (.cells z.cells t (0, 0)) H K
    | none => False
  | .box t x => New (.cells (ev x).cells t (0, 0)) H K
  | .buildSlice t len parts => match P.underlying t with
    | some (.slice e) => match P.info? e with
      | some i => match i.zero with
        | some z => if len * i.size > 2 ^ 24 then False else
          Get (Instr.fill (fun j => some (j * i.size, i.size)) ((Array.range (len * i.size)).map (z.cells[· % z.cells.size]!)) (parts.toList.map fun p => (p.1, ev p.2)))
            fun cs => K (.slice (some ⟨H.size, 0, none⟩) len len) (H.push (.cells cs e (0, 0)))
        | none => False
      | none => False
    | _ => False
  | .makeMap _ none => K (.map (some H.size)) (H.push (.map #[] 0))
  | .makeSlice t l c => match P.underlying t with
    | some (.slice e) => match P.info? e with
      | some i => match i.zero with
        | some z => MakeSlice e i.size i.bytes z.cells (ev l) (ev c) H K
        | none => False
      | none => False
    | _ => False
  | .convert s d x => match convRes P s d with
    | .toBytes e => ToBytes e (ev x) H K
    | _ => False
  | .binOp op t x y _ => ExecV P (do eqGuard op t x y (ev x) (ev y); binOp op t (ev x) (ev y)) H K
  | .lookup t' x i ok => ExecV P (Instr.lookup t' (ev x) (ev i) ok) H K
  | .mapUpdate t m k x => ExecV P (do Instr.mapUpdate t (ev m) (ev k) (ev x); pure undef) H K
  | .range t x => ExecV P (Instr.range t (ev x)) H K
  | .next it s => ExecV P (Instr.next (ev it) s o.type) H K
  | .typeAssert x xt a ok => ExecV P (Instr.typeAssert (ev x) xt a ok) H K
  | .call ⟨.value f, args, _⟩ => match f with
    | .func f => if hasBody P f then CallsH P f (args.map ev) H K else CallX P f (args.map ev) H K
    | f => CallV P (ev f) (args.map ev) H K
  | .call ⟨.invoke r name, args, _⟩ => Invoke P name (ev r) (args.map ev) H K
  | .call ⟨.builtin b, args, argTypes⟩ => match b, args.toList, argTypes.toList with
    | .append, [s, x], [st, xt] => match P.underlying st, P.underlying xt with
      | some (.slice e), some (.slice _) | some (.slice e), some .string => match P.info? e with
        | some i => match i.zero with
          | some z => Append e i.size i.bytes z.cells (ev s) (ev x) H K
          | none => False
        | none => False
      | _, _ => False
    | .copy, [s, x], st :: _ => match P.underlying st with
      | some (.slice e) => match P.info? e with
        | some i => Copy i.size (ev s) (ev x) H K
        | none => False
      | _ => False
    | .len, [x], t :: _ => ExecV P (Builtin.len_ argTypes o.type #[ev x]) H K
    | _, _, _ => False
  | _ => False

def opP (P : Program) (ev : Operand → Value) (o : Oper) (H : Heap) (K : Value → Heap → Prop) : Prop :=
  match kindOf P o with
  | .pure => match o.op with
    | .move x | .assign x => K (ev x) H
    | .makeFunc fn a b => K (.func fn (a.map ev) (b.map ev)) H
    | _ => Get (pureV P ev o) fun v => K v H
  | .read => Get (readV P ev H o) fun v => K v H
  | .eff => effP P ev o H K
end Go.Cps
