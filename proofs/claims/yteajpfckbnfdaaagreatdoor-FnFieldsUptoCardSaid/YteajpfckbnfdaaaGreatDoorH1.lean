/-
  A part of the proof: Heap-level continuation semantics for Go functions: one proposition for each operation, over the heap alone. Operations that touch no memory, and loads: what they yield, with the program's types looked up; they run so. Operations that touch no memory, and loads, run as they are told.
  Conditions: each contract's own.
-/
import Derived.Still
import Derived.KernelRfl
import Derived.Laws.Sem
import Derived.Laws.Slices
set_option linter.all false
namespace Go.Cps
open Go
structure Same (w w' : World) : Prop where
  os : w'.os = w.os
  tape : w'.tape = w.tape
  output : w'.output = w.output
theorem Same.refl (w : World) : Same w w := ⟨rfl, rfl, rfl⟩
theorem Same.trans {a b c : World} (h : Same a b) (k : Same b c) : Same a c := ⟨k.os.trans h.os, k.tape.trans h.tape, k.output.trans h.output⟩
abbrev Heap := Array Obj
def at_ (H : Heap) : World := { (default : World) with heap := H }
def CallsH (P : Program) (f : FuncId) (args : Array Value) (H : Heap) (K : Value → Heap → Prop) : Prop :=
  ∀ w, w.heap = H → Calls P f args w fun e w' => ∃ v, e = .returned v ∧ Same w w' ∧ K v w'.heap
theorem CallsH.mono {P : Program} {f : FuncId} {args : Array Value} {H : Heap} {K K' : Value → Heap → Prop} (h : CallsH P f args H K)
    (hk : ∀ v H', K v H' → K' v H') : CallsH P f args H K' :=
  fun w hw => (h w hw).mono fun _ _ ⟨v, he, hs, hK⟩ => ⟨v, he, hs, hk _ _ hK⟩
theorem CallsH.live {P : Program} {f : FuncId} {args : Array Value} {H : Heap} {K : Value → Heap → Prop} (h : CallsH P f args H K) : ∃ v H', K v H' := by
  obtain ⟨e, w', fr, ⟨v, _, _, hK⟩, _⟩ := h (at_ H) rfl []
  exact ⟨v, w'.heap, hK⟩
def Good (P : Program) (w : World) (K : Value → Heap → Prop) : Result Next → Prop
  | .ok (.value v) w' => Same w w' ∧ K v w'.heap
  | .ok .skip w' => Same w w' ∧ K undef w'.heap
  | .ok (.enter f args) w' => Same w w' ∧ CallsH P f args w'.heap K
  | _ => False
def ExecH (P : Program) (s : Sem Next) (H : Heap) (K : Value → Heap → Prop) : Prop := ∀ w, w.heap = H → Good P w K (s.run P w)
theorem Good.mono {P : Program} {w : World} {K K' : Value → Heap → Prop} (hk : ∀ v H', K v H' → K' v H') {r : Result Next} (h : Good P w K r) : Good P w K' r := by
  cases r with
  | ok n w' =>
    cases n <;> simp only [Good] at h ⊢
    case value v => exact ⟨h.1, hk _ _ h.2⟩
    case skip => exact ⟨h.1, hk _ _ h.2⟩
    case enter f args => exact ⟨h.1, h.2.mono hk⟩
  | halt x w' => simp only [Good] at h
theorem Good.live {P : Program} {w : World} {K : Value → Heap → Prop} {r : Result Next} (h : Good P w K r) : ∃ v H', K v H' := by
  cases r with
  | ok n w' =>
    cases n <;> simp only [Good] at h
    case value v => exact ⟨_, _, h.2⟩
    case skip => exact ⟨_, _, h.2⟩
    case enter f args => exact h.2.live
  | halt x w' => simp only [Good] at h
theorem ExecH.mono {P : Program} {s : Sem Next} {H : Heap} {K K' : Value → Heap → Prop} (h : ExecH P s H K) (hk : ∀ v H', K v H' → K' v H') : ExecH P s H K' :=
  fun w hw => (h w hw).mono hk
theorem ExecH.live {P : Program} {s : Sem Next} {H : Heap} {K : Value → Heap → Prop} (h : ExecH P s H K) : ∃ v H', K v H' := (h (at_ H) rfl).live
theorem wp_of_good {P : Program} {o : Oper} {a : Act} {w₀ w : World} {K : Value → Heap → Prop} {next : Act → World → Prop} {Q : Exit → Act → World → Prop}
    (hs : Same w₀ w) (hn : ∀ v w', Same w₀ w' → K v w'.heap → next (a.put o.dst v) w') (h : Good P w K ((execOp a.eval o).run P w)) : o.wp P a w next Q := by
  unfold Oper.wp
  generalize (execOp a.eval o).run P w = r at *
  cases r with
  | ok n w' =>
    cases n <;> simp only [Good] at h <;> simp only [Oper.upon]
    case value v => exact hn _ _ (hs.trans h.1) h.2
    case skip => exact hn _ _ (hs.trans h.1) h.2
    case enter f args =>
      refine (h.2 w' rfl).mono ?_
      rintro e w'' ⟨v, rfl, hs', hK⟩
      exact hn _ _ ((hs.trans h.1).trans hs') hK
  | halt x w' => simp only [Good] at h
theorem wrap_i64_eq (n : Int) : IntKind.i64.wrap n = if n % 18446744073709551616 ≥ 9223372036854775808 then n % 18446744073709551616 - 18446744073709551616 else n % 18446744073709551616 := by
  unfold IntKind.wrap
  simp [IntKind.bits, IntKind.signed]
theorem wrap_i64 {n : Int} (h1 : -9223372036854775808 ≤ n) (h2 : n ≤ 9223372036854775807) : IntKind.i64.wrap n = n := by
  rw [wrap_i64_eq]
  split <;> omega
theorem wrap_u8_eq (n : Int) : IntKind.u8.wrap n = n % 256 := by
  unfold IntKind.wrap
  simp [IntKind.bits, IntKind.signed]
theorem wrap_u8 {n : Int} (h1 : 0 ≤ n) (h2 : n ≤ 255) : IntKind.u8.wrap n = n := by
  rw [wrap_u8_eq]
  omega
def cellH (H : Heap) (a : Addr) : Option Value :=
  match H[a.block]? with
  | some (.cells c _ _) => if a.spot.isSome then none else c[a.off]?
  | _ => none
def frozenH (H : Heap) (a : Addr) : Bool :=
  match H[a.block]? with
  | some (.cells _ _ (lo, hi)) => lo ≤ a.off && a.off < hi
  | _ => false
def setH (H : Heap) (a : Addr) (v : Value) : Heap :=
  H.modify a.block fun
    | .cells c elem frozen => .cells (if a.spot.isSome then c else c.setIfInBounds a.off v) elem frozen
    | o => o
theorem cellH_eq (w : World) (a : Addr) : w.cell? a = cellH w.heap a := rfl
theorem frozenH_eq (w : World) (a : Addr) : w.frozen? a = frozenH w.heap a := rfl
theorem setH_eq (w : World) (a : Addr) (v : Value) : (w.setCell a v).heap = setH w.heap a v := rfl
theorem Same.setCell (w : World) (a : Addr) (v : Value) : Same w (w.setCell a v) := ⟨rfl, rfl, rfl⟩
def cellsH (H : Heap) (a : Addr) : Nat → Nat → Option (List Value)
  | _, 0 => some []
  | i, n + 1 => match cellH H (a.add i) with
    | some v => (cellsH H a (i + 1) n).map (v :: ·)
    | none => none
def isOne : Value → Bool
  | .agg _ | .tuple _ => false
  | _ => true
def storesH (a : Addr) : Nat → List Value → Heap → Option Heap
  | _, [], H => some H
  | i, v :: r, H => if isOne v && (cellH H (a.add i)).isSome && !frozenH H (a.add i) then storesH a (i + 1) r (setH H (a.add i) v) else none
def pickV (c x y : Value) : Option Value := match c with | .bool t => some (if t then x else y) | _ => none
def aheadP (P : Program) (t : TypeId) (w : Value) (name : String) : Bool :=
  match P.info? t with
  | some i => match i.methods.find? (·.name == name) with
    | some m => match m.path.toList, m.func with
      | [], some (_, true) => Nat.blt 0 P.types.size
      | [], some (_, false) => match P.underlying t, w with
        | some (.pointer _), .pointer (some _) => Nat.blt 0 P.types.size
        | some (.struct _), _ => Nat.blt 0 P.types.size
        | _, _ => false
      | _, _ => false
    | none => false
  | none => false
def nilVP (P : Program) : Value → Option Value
  | .pointer (some a) => some (.pointer (some a))
  | .iface t v => some (.iface t v)
  | .func (.func f) x y => some (.func (.func f) x y)
  | .func (.method name) x y => match (x[0]? : Option Value) with
    | some (.iface t w) => if aheadP P t w name then some (.func (.method name) x y) else none
    | _ => none
  | _ => none
def unV (op : UnOp) (x : Value) : Option Value :=
  match op, x with
  | .neg, .int k n => some (.int k (k.wrap (0 - n)))
  | .xor, .int k n => some (.int k (k.wrap (BitVec.ofInt k.bits (if k.signed then -1 else k.max) ^^^ BitVec.ofInt k.bits n).toNat))
  | .not, .bool b => some (.bool !b)
  | _, _ => none
def fieldAddrV (off : Nat) (x : Value) : Option Value := match x with | .pointer (some a) => some (.pointer (some (a.add off))) | _ => none
def fieldOneV (off : Nat) (x : Value) : Option Value := match x with | .agg cs => cs[off]? | _ => none
def fieldAggV (off n : Nat) (x : Value) : Option Value := match x with | .agg cs => some (.agg (cs.extract off (off + n))) | _ => none
def elemAddrV (size : Nat) (x i : Value) : Option Value :=
  match x, i with
  | .slice (some a) len _, .int _ n => if 0 ≤ n ∧ n < (len : Int) then some (.pointer (some (a.add (n.toNat * size)))) else none
  | _, _ => none
def arrAddrV (len size : Nat) (x i : Value) : Option Value :=
  match x, i with
  | .pointer (some a), .int _ n => if 0 ≤ n ∧ n < (len : Int) then some (.pointer (some (a.add (n.toNat * size)))) else none
  | _, _ => none
def strIndexV (x i : Value) : Option Value :=
  match x, i with
  | .string s, .int _ n => match (if 0 ≤ n then s[n.toNat]? else none) with | some b => some (.int .u8 b.toNat) | none => none
  | _, _ => none
def extractV (x : Value) (i : Nat) : Option Value := match x with | .tuple vs => vs[i]? | _ => none
def boundV (x : Option Value) (dflt top : Nat) : Option Nat :=
  match x with
  | none => some dflt
  | some (.int _ n) => if 0 ≤ n ∧ n ≤ (top : Int) then some n.toNat else none
  | _ => none
def boundsV (len cap : Nat) (lo hi mx : Option Value) : Option (Nat × Nat × Nat) :=
  match boundV mx cap cap with
  | none => none
  | some m => match boundV hi len m with
    | none => none
    | some h => match boundV lo 0 h with
      | none => none
      | some l => some (l, h, m)
def sliceV (size : Nat) (x : Value) (lo hi mx : Option Value) : Option Value :=
  match x with
  | .slice a len cap => match boundsV len cap lo hi mx with
    | some (l, h, m) => some (.slice (if m = l then a else a.map (·.add (l * size))) (h - l) (m - l))
    | none => none
  | _ => none
def arrSliceV (len size : Nat) (x : Value) (lo hi mx : Option Value) : Option Value :=
  match x with
  | .pointer (some a) => match boundsV len len lo hi mx with
    | some (l, h, m) => some (.slice (some (if m = l then a else a.add (l * size))) (h - l) (m - l))
    | none => none
  | _ => none
def strSliceV (x : Value) (lo hi : Option Value) : Option Value :=
  match x with
  | .string s => match boundsV s.size s.size lo hi none with
    | some (l, h, _) => some (.string (s.extract l h))
    | none => none
  | _ => none
def fillV (places : Array (Nat × Nat)) (zero : Array Value) (parts : List (Nat × Value)) : Option (Array Value) := Instr.fill (places[·]?) zero parts
def arithV (op : BinOp) (k : IntKind) (x y : Value) : Option Value :=
  match x, y with
  | .int k₁ a, .int k₂ b =>
    if k₁ = k ∧ k₂ = k then
      match op with
      | .add => some (.int k (k.wrap (a + b)))
      | .sub => some (.int k (k.wrap (a - b)))
      | .mul => some (.int k (k.wrap (a * b)))
      | .quo => if b = 0 then none else some (.int k (k.wrap (a.tdiv b)))
      | .rem => if b = 0 then none else some (.int k (a.tmod b))
      | .and => some (.int k (k.wrap (BitVec.ofInt k.bits a &&& BitVec.ofInt k.bits b).toNat))
      | .or => some (.int k (k.wrap (BitVec.ofInt k.bits a ||| BitVec.ofInt k.bits b).toNat))
      | .xor => some (.int k (k.wrap (BitVec.ofInt k.bits a ^^^ BitVec.ofInt k.bits b).toNat))
      | .andNot => some (.int k (k.wrap (BitVec.ofInt k.bits a &&& ~~~(BitVec.ofInt k.bits b)).toNat))
      | .eql => some (.bool (a == b))
      | .neq => some (.bool (a != b))
      | .lss => some (.bool (a < b))
      | .leq => some (.bool (a ≤ b))
      | .gtr => some (.bool (a > b))
      | .geq => some (.bool (a ≥ b))
      | _ => none
    else none
  | _, _ => none
def shiftV (op : BinOp) (k : IntKind) (x y : Value) : Option Value :=
  match x, y with
  | .int k₁ a, .int _ b =>
    if k₁ = k ∧ 0 ≤ b then
      match op with
      | .shl => some (.int k (k.wrap (a * 2 ^ (min b.toNat k.bits))))
      | .shr => some (.int k (a.fdiv (2 ^ (min b.toNat k.bits))))
      | _ => none
    else none
  | _, _ => none
def strV (op : BinOp) (x y : Value) : Option Value :=
  match x, y with
  | .string a, .string b =>
    match op with
    | .add => if (a.size + b.size : Nat) ≤ 9223372036854775807 then some (.string (a ++ b)) else none
    | .eql => some (.bool (a.toList == b.toList))
    | .neq => some (.bool !(a.toList == b.toList))
    | .lss => some (.bool (Op.bytesLess a.toList b.toList))
    | .leq => some (.bool (Op.bytesLess a.toList b.toList || a.toList == b.toList))
    | .gtr => some (.bool !(Op.bytesLess a.toList b.toList || a.toList == b.toList))
    | .geq => some (.bool !(Op.bytesLess a.toList b.toList))
    | _ => none
  | _, _ => none
def boolEqV (op : BinOp) (x y : Value) : Option Value :=
  match op, x, y with
  | .eql, .bool a, .bool b => some (.bool (a == b))
  | .neq, .bool a, .bool b => some (.bool (a != b))
  | _, _, _ => none
def intConvV (k : IntKind) (x : Value) : Option Value := match x with | .int _ n => some (.int k (k.wrap n)) | _ => none
def sameStrV (x : Value) : Option Value := match x with | .string s => some (.string s) | _ => none
def lenV (x : Value) : Option Value := match x with | .slice _ n _ => some (.int .i64 n) | _ => none
def lenStrV (x : Value) : Option Value := match x with | .string s => some (.int .i64 s.size) | _ => none
def capV (x : Value) : Option Value := match x with | .slice _ _ n => some (.int .i64 n) | _ => none
def minV (x y : Value) : Option Value := match x, y with | .int k a, .int _ b => some (.int k (if b < a then b else a)) | _, _ => none
def maxV (x y : Value) : Option Value := match x, y with | .int k a, .int _ b => some (.int k (if b > a then b else a)) | _, _ => none
end Go.Cps
namespace Go.Cps
open Go
inductive BK where
  | arith (k : IntKind)
  | shift (k : IntKind)
  | str
  | boolEq
  | nilY (c : Value)
  | nilX (c : Value)
  | no
def nilConst (t : Option TypeDesc) : Operand → Option Value
  | .const .nilIface => match t with | some (.interface _) => some .nilIface | _ => none
  | .const (.pointer none) => match t with | some (.pointer _) => some (.pointer none) | _ => none
  | .const .nilFunc => match t with | some (.func _ _ _) => some .nilFunc | _ => none
  | .const (.slice none 0 0) => match t with | some (.slice _) => some (.slice none 0 0) | _ => none
  | .const (.map none) => match t with | some (.map _ _) => some (.map none) | _ => none
  | _ => none
def isEq : BinOp → Bool
  | .eql | .neq => true
  | _ => false
def isShift : BinOp → Bool
  | .shl | .shr => true
  | _ => false
def binRes (P : Program) (op : BinOp) (t : TypeId) (x y : Operand) : BK :=
  match (if isEq op then nilConst (P.underlying t) y else none) with
  | some c => .nilY c
  | none => match (if isEq op then nilConst (P.underlying t) x else none) with
    | some c => .nilX c
    | none => match P.underlying t with
      | some (.int k) => if isShift op then .shift k else .arith k
      | some .string => .str
      | some .bool => .boolEq
      | _ => .no
def nilTest (c x : Value) : Option Bool :=
  match c, x with
  | .nilIface, .nilIface => some true
  | .nilIface, .iface _ _ => some false
  | .pointer none, .pointer b => some b.isNone
  | .nilFunc, .nilFunc => some true
  | .nilFunc, .func _ _ _ => some false
  | .slice none _ _, .slice b _ _ => some b.isNone
  | .map none, .map r => some r.isNone
  | _, _ => none
def nilV2 (op : BinOp) (c x : Value) : Option Value :=
  match nilTest c x with
  | some b => some (.bool (match op with | .eql => b | _ => !b))
  | none => none
def binV (P : Program) (op : BinOp) (t : TypeId) (ev : Operand → Value) (x y : Operand) : Option Value :=
  match binRes P op t x y with
  | .arith k => arithV op k (ev x) (ev y)
  | .shift k => shiftV op k (ev x) (ev y)
  | .str => strV op (ev x) (ev y)
  | .boolEq => boolEqV op (ev x) (ev y)
  | .nilY c => nilV2 op c (ev x)
  | .nilX c => nilV2 op c (ev y)
  | .no => none
inductive CK where
  | int (k : IntKind)
  | str
  | bytes
  | toBytes (e : TypeId)
  | mark
  | no
def convRes (P : Program) (s d : TypeId) : CK :=
  match P.underlying s, P.underlying d with
  | some (.int _), some (.int k) => .int k
  | some .string, some .string => .str
  | some (.slice e), some .string => match P.underlying e with | some (.int .u8) => .bytes | _ => .no
  | some .string, some (.slice e) => match P.underlying e with | some (.int .u8) => .toBytes e | _ => .no
  | some (.slice _), some (.slice e) => match s == d, P.underlying e with | true, some (.int .u8) => .mark | _, _ => .no
  | _, _ => .no
def isAggD : TypeDesc → Bool
  | .struct _ | .array _ _ => true
  | _ => false
def aggSize (P : Program) (t : TypeId) : Option (Nat × Bool) :=
  match P.info? t, P.underlying t with
  | some i, some d => some (i.size, isAggD d)
  | _, _ => none
def fieldRes (P : Program) (s : TypeId) (f : Nat) : Option (Nat × Nat × Bool) :=
  match P.underlying s with
  | some (.struct fs) => match fs[f]? with
    | some fd => match aggSize P fd.type with
      | some (n, b) => some (fd.offset, n, b)
      | none => none
    | none => none
  | _ => none
def isIfaceT (P : Program) (t : TypeId) : Bool := match P.underlying t with | some (.interface _) => true | none => true | _ => false
def buildRes (P : Program) (t : TypeId) : Option (Array (Nat × Nat) × Array Value) :=
  match P.underlying t, (P.info? t).bind (·.zero) with
  | some (.struct fs), some z => (fs.toList.mapM fun f => (P.info? f.type).map fun i => (f.offset, i.size)).map fun l => (l.toArray, z.cells)
  | _, _ => none
def isStrT (P : Program) (t : TypeId) : Bool := match P.underlying t with | some .string => true | _ => false
def sliceLike (P : Program) (t : TypeId) : Bool := match P.underlying t with | some (.slice _) => true | _ => false
def pureV (P : Program) (ev : Operand → Value) (o : Oper) : Option Value :=
  match o.op with
  | .move x | .assign x => some (ev x)
  | .pick c a b => pickV (ev c) (ev a) (ev b)
  | .nilCheck x => nilVP P (ev x)
  | .unOp op _ x => unV op (ev x)
  | .fieldAddr s x f => match fieldRes P s f with
    | some (off, size, _) => if size = 0 then none else fieldAddrV off (ev x)
    | none => none
  | .field s x f => match fieldRes P s f with
    | some (off, size, true) => fieldAggV off size (ev x)
    | some (off, _, false) => fieldOneV off (ev x)
    | none => none
  | .indexAddr t x i => match P.underlying t with
    | some (.slice e) => match P.info? e with | some i' => elemAddrV i'.size (ev x) (ev i) | none => none
    | some (.array n e) => if n ≤ 1 then none else match P.info? e with | some i' => arrAddrV n i'.size (ev x) (ev i) | none => none
    | _ => none
  | .index t x i => match P.underlying t with
    | some .string => strIndexV (ev x) (ev i)
    | _ => none
  | .extract x i => extractV (ev x) i
  | .slice t x lo hi mx => match P.underlying t with
    | some .string => if mx.isSome then none else strSliceV (ev x) (lo.map ev) (hi.map ev)
    | some (.slice e) => match P.info? e with | some i' => if mx.isSome && hi.isNone then none else sliceV i'.size (ev x) (lo.map ev) (hi.map ev) (mx.map ev) | none => none
    | some (.array n e) => match P.info? e with | some i' => if mx.isSome && hi.isNone then none else arrSliceV n i'.size (ev x) (lo.map ev) (hi.map ev) (mx.map ev) | none => none
    | _ => none
  | .makeInterface t x => if isIfaceT P t then none else some (.iface t (ev x))
  | .makeFunc fn a b => some (.func fn (a.map ev) (b.map ev))
  | .build t parts => match buildRes P t with
    | some (places, zero) => (fillV places zero (parts.toList.map fun p => (p.1, ev p.2))).map .agg
    | none => none
  | .binOp op t x y _ => binV P op t ev x y
  | .convert s d x => match convRes P s d with
    | .int k => intConvV k (ev x)
    | .str => sameStrV (ev x)
    | _ => none
  | .call ⟨.builtin b, args, argTypes⟩ => match b, args.toList, argTypes.toList with
    | .len, [x], t :: _ => if sliceLike P t then lenV (ev x) else if isStrT P t then lenStrV (ev x) else none
    | .cap, [x], t :: _ => if sliceLike P t then capV (ev x) else none
    | .min, [x, y], _ => minV (ev x) (ev y)
    | .max, [x, y], _ => maxV (ev x) (ev y)
    | _, _, _ => none
  | _ => none
def load1V (x : Value) (H : Heap) : Option Value := match x with | .pointer (some a) => cellH H a | _ => none
def loadNV (n : Nat) (x : Value) (H : Heap) : Option Value := match x with | .pointer (some a) => (cellsH H a 0 n).map fun l => .agg l.toArray | _ => none
def toByte? : Value → Option UInt8
  | .int .u8 n => some (UInt8.ofNat n.toNat)
  | _ => none
def bytesOfCells : List Value → Option (List UInt8)
  | [] => some []
  | v :: r => match toByte? v with
    | some b => (bytesOfCells r).map (b :: ·)
    | none => none
def bytesV (x : Value) (H : Heap) : Option Value :=
  match x with
  | .slice none _ _ => some (.string .empty)
  | .slice (some a) len _ => match cellsH H a 0 len with
    | some l => (bytesOfCells l).map fun bs => .string ⟨bs.toArray⟩
    | none => none
  | _ => none
def readV (P : Program) (ev : Operand → Value) (H : Heap) (o : Oper) : Option Value :=
  match o.op with
  | .load t a => match aggSize P t with
    | some (n, true) => loadNV n (ev a) H
    | some (_, false) => load1V (ev a) H
    | none => none
  | .convert s d x => match convRes P s d with
    | .bytes => bytesV (ev x) H
    | _ => none
  | _ => none
section
variable {P : Program} {ev : Operand → Value} {o : Oper} {v : Value}
theorem run_underlying' {t : TypeId} {d : TypeDesc} (h : P.underlying t = some d) (w : World) : (underlying t).run P w = .ok d w := by
  simp [underlying, h]
theorem run_typeInfo' {t : TypeId} {i : TypeInfo} (h : P.info? t = some i) (w : World) : (typeInfo t).run P w = .ok i w := by
  simp [typeInfo, h]
theorem run_sizeOf' {t : TypeId} {i : TypeInfo} (h : P.info? t = some i) (w : World) : (sizeOf t).run P w = .ok i.size w := by
  simp [sizeOf, run_typeInfo' h]
theorem aggSize_spec {t : TypeId} {n : Nat} {b : Bool} (h : aggSize P t = some (n, b)) : ∃ i, P.info? t = some i ∧ i.size = n ∧ ∀ w, (isAgg t).run P w = .ok b w := by
  unfold aggSize at h
  split at h <;> try contradiction
  rename_i i d hi hd
  cases h
  refine ⟨i, hi, rfl, fun w => ?_⟩
  simp only [isAgg, Sem.run_bind, run_underlying' hd, Result.andThen_ok]
  cases d <;> rfl
theorem fieldRes_spec {s : TypeId} {f off n : Nat} {b : Bool} (h : fieldRes P s f = some (off, n, b)) :
    ∃ fs fd, P.underlying s = some (.struct fs) ∧ fs[f]? = some fd ∧ fd.offset = off ∧ aggSize P fd.type = some (n, b) := by
  unfold fieldRes at h
  split at h <;> try contradiction
  split at h <;> try contradiction
  split at h <;> try contradiction
  cases h
  exact ⟨_, _, ‹_›, ‹_›, rfl, ‹_›⟩
theorem run_v (s : Sem Value) (w : World) (x : Value) (h : s.run P w = .ok x w) : (do pure (Next.value (← s)) : Sem Next).run P w = .ok (.value x) w := by
  simp [h]
theorem bound_sound {x : Value} {top n d : Nat} {c : BoundsCode} (h : boundV (some x) d top = some n) (w : World) : (Instr.sliceBound x top c).run P w = .ok n w := by
  unfold boundV at h
  split at h <;> try contradiction
  rename_i k m heq
  cases heq
  split at h <;> try contradiction
  rename_i hc
  cases h
  simp [Instr.sliceBound, asIntOf, hc]
theorem bounds_sound {isS : Bool} {len cap : Nat} {lo hi mx : Option Value} {r : Nat × Nat × Nat} (hm : (mx.isSome && hi.isNone) = false) (h : boundsV len cap lo hi mx = some r) (w : World) :
    (Instr.sliceBounds isS len cap lo hi mx).run P w = .ok r w := by
  unfold boundsV at h
  split at h <;> try contradiction
  rename_i m hmx
  split at h <;> try contradiction
  rename_i hh hhi
  split at h <;> try contradiction
  rename_i l hlo
  cases h
  unfold Instr.sliceBounds
  cases mx with
  | none =>
    simp only [boundV, Option.some.injEq] at hmx
    subst hmx
    cases hi with
    | none =>
      simp only [boundV, Option.some.injEq] at hhi
      subst hhi
      cases lo with
      | none => simp only [boundV, Option.some.injEq] at hlo; subst hlo; simp
      | some x => simp [bound_sound (P := P) hlo]
    | some y =>
      cases lo with
      | none => simp only [boundV, Option.some.injEq] at hlo; subst hlo; simp [bound_sound (P := P) hhi]
      | some x => simp [bound_sound (P := P) hhi, bound_sound (P := P) hlo]
  | some z =>
    cases hi with
    | none => simp at hm
    | some y =>
      cases lo with
      | none => simp only [boundV, Option.some.injEq] at hlo; subst hlo; simp [bound_sound (P := P) hmx, bound_sound (P := P) hhi]
      | some x => simp [bound_sound (P := P) hmx, bound_sound (P := P) hhi, bound_sound (P := P) hlo]
theorem nilConst_cases {t : Option TypeDesc} {x : Operand} {c : Value} (h : nilConst t x = some c) :
    (c = .nilIface ∧ x = .const .nilIface ∧ ∃ ms, t = some (.interface ms)) ∨ (c = .pointer none ∧ x = .const (.pointer none) ∧ ∃ e, t = some (.pointer e)) ∨
    (c = .nilFunc ∧ x = .const .nilFunc ∧ ∃ a b d, t = some (.func a b d)) ∨ (c = .slice none 0 0 ∧ x = .const (.slice none 0 0) ∧ ∃ e, t = some (.slice e)) ∨
    (c = .map none ∧ x = .const (.map none) ∧ ∃ k e, t = some (.map k e)) := by
  unfold nilConst at h
  split at h <;> try contradiction
  all_goals (split at h <;> try contradiction)
  all_goals (cases h)
  · exact .inl ⟨rfl, rfl, _, rfl⟩
  · exact .inr (.inl ⟨rfl, rfl, _, rfl⟩)
  · exact .inr (.inr (.inl ⟨rfl, rfl, _, _, _, rfl⟩))
  · exact .inr (.inr (.inr (.inl ⟨rfl, rfl, _, rfl⟩)))
  · exact .inr (.inr (.inr (.inr ⟨rfl, rfl, _, _, rfl⟩)))
theorem equalIn_bool {t : TypeId} (a b : Bool) (d : Nat) (ht : P.underlying t = some .bool) (w : World) : (Op.equalIn (d + 1) t (.bool a) (.bool b)).run P w = .ok (a == b) w := by
  simp only [Op.equalIn, Sem.run_bind, run_underlying' ht, Result.andThen_ok]
  rfl
theorem nilConst_ev {t : Option TypeDesc} {x : Operand} {c : Value} (h : nilConst t x = some c) : x = .const c := by
  rcases nilConst_cases h with ⟨rfl, h, _⟩ | ⟨rfl, h, _⟩ | ⟨rfl, h, _⟩ | ⟨rfl, h, _⟩ | ⟨rfl, h, _⟩ <;> exact h
theorem equalIn_nil {t : TypeId} {c x : Value} {b : Bool} {y : Operand} (d : Nat) (hc : nilConst (P.underlying t) y = some c) (h : nilTest c x = some b) (w : World) :
    (Op.equalIn (d + 1) t x c).run P w = .ok b w ∧ (Op.equalIn (d + 1) t c x).run P w = .ok b w := by
  rcases nilConst_cases hc with ⟨rfl, _, e, ht⟩ | ⟨rfl, _, e, ht⟩ | ⟨rfl, _, e, e2, e3, ht⟩ | ⟨rfl, _, e, ht⟩ | ⟨rfl, _, e, e2, ht⟩ <;>
    (cases x <;> simp only [nilTest] at h <;> try contradiction)
  all_goals (try (simp only [Option.some.injEq] at h; subst h))
  all_goals (constructor <;> simp only [Op.equalIn, Sem.run_bind, run_underlying' ht, Result.andThen_ok])
  all_goals (try rfl)
  all_goals (first | (rename_i a l m; cases a <;> rfl) | (rename_i a; cases a <;> rfl))
theorem equal_nil {t : TypeId} {c x : Value} {b : Bool} {y : Operand} (hc : nilConst (P.underlying t) y = some c) (h : nilTest c x = some b) (w : World) :
    (Op.equal t x c).run P w = .ok b w ∧ (Op.equal t c x).run P w = .ok b w := equalIn_nil (P := P) 9999 hc h w
theorem guard_nil {op : BinOp} {t : TypeId} {c x : Value} {b : Bool} {y z : Operand} (hc : nilConst (P.underlying t) y = some c) (h : nilTest c x = some b) (w : World) :
    (eqGuard op t z y x c).run P w = .ok () w ∧ (eqGuard op t y z c x).run P w = .ok () w := by
  rcases nilConst_cases hc with ⟨rfl, hy, e, ht⟩ | ⟨rfl, hy, e, ht⟩ | ⟨rfl, hy, e, e2, e3, ht⟩ | ⟨rfl, hy, e, ht⟩ | ⟨rfl, hy, e, e2, ht⟩ <;>
    (cases x <;> simp only [nilTest] at h <;> try contradiction)
  all_goals (cases op <;> simp [eqGuard])
  all_goals (subst hy; simp)
theorem nil_sound {op : BinOp} {t : TypeId} {c x u : Value} {y z : Operand} (he : isEq op = true) (hc : nilConst (P.underlying t) y = some c) (h : nilV2 op c x = some u) (w : World) :
    (do eqGuard op t z y x c; binOp op t x c : Sem Value).run P w = .ok u w ∧ (do eqGuard op t y z c x; binOp op t c x : Sem Value).run P w = .ok u w := by
  unfold nilV2 at h
  split at h <;> try contradiction
  rename_i b hb
  cases h
  obtain ⟨g1, g2⟩ := guard_nil (P := P) (op := op) (z := z) hc hb w
  obtain ⟨e1, e2⟩ := equal_nil (P := P) hc hb w
  simp only [Sem.run_bind, g1, g2, Result.andThen_ok]
  rcases nilConst_cases hc with ⟨rfl, _⟩ | ⟨rfl, _⟩ | ⟨rfl, _⟩ | ⟨rfl, _⟩ | ⟨rfl, _⟩ <;>
    (cases x <;> simp only [nilTest] at hb <;> try contradiction)
  all_goals (cases op <;> simp [isEq] at he)
  all_goals (simp only [binOp, Sem.run_bind, e1, e2, Result.andThen_ok]; exact ⟨rfl, rfl⟩)
end
end Go.Cps
namespace Go.Cps
open Go
section
variable {P : Program} {ev : Operand → Value} {o : Oper} {v : Value}
theorem arith_sound {op : BinOp} {k : IntKind} {t : TypeId} {x y : Value} {a b : Operand} (hs : isShift op = false) (h : arithV op k x y = some v) (w : World) :
    (do eqGuard op t a b x y; binOp op t x y : Sem Value).run P w = .ok v w := by
  unfold arithV at h
  split at h <;> try contradiction
  rename_i k1 m k2 n
  split at h <;> try contradiction
  rename_i hk
  obtain ⟨rfl, rfl⟩ := hk
  cases op <;> simp [isShift] at hs <;> simp only [] at h
  all_goals (try (split at h <;> try contradiction))
  all_goals (cases h)
  all_goals (simp [eqGuard, binOp, Op.intArith, Op.intDiv, Op.intBits, Op.intCmp, *])
theorem shift_sound {op : BinOp} {k : IntKind} {t : TypeId} {x y : Value} {a b : Operand} (h : shiftV op k x y = some v) (w : World) :
    (do eqGuard op t a b x y; binOp op t x y : Sem Value).run P w = .ok v w := by
  unfold shiftV at h
  split at h <;> try contradiction
  rename_i k1 m k2 n
  split at h <;> try contradiction
  rename_i hk
  obtain ⟨rfl, hn⟩ := hk
  have : ¬ n < 0 := by omega
  cases op <;> simp only [] at h <;> try contradiction
  all_goals (cases h)
  all_goals (simp [eqGuard, binOp, Op.shift, this])
theorem str_sound {op : BinOp} {t : TypeId} {x y : Value} {a b : Operand} (h : strV op x y = some v) (w : World) :
    (do eqGuard op t a b x y; binOp op t x y : Sem Value).run P w = .ok v w := by
  unfold strV at h
  split at h <;> try contradiction
  rename_i s u
  cases op <;> simp only [] at h <;> try contradiction
  case add =>
    split at h <;> try contradiction
    rename_i hle
    cases h
    have : ¬ ((s.size + u.size : Nat) : Int) > IntKind.i64.max := by
      have : IntKind.i64.max = 9223372036854775807 := rfl
      omega
    simp only [eqGuard, binOp, Op.stringOp, this, if_false]
    simp
  all_goals (cases h; simp [eqGuard, binOp, Op.stringOp])
theorem boolEq_sound {op : BinOp} {t : TypeId} {x y : Value} {a b : Operand} (ht : P.underlying t = some .bool) (h : boolEqV op x y = some v) (w : World) :
    (do eqGuard op t a b x y; binOp op t x y : Sem Value).run P w = .ok v w := by
  unfold boolEqV at h
  split at h <;> try contradiction
  all_goals
    rename_i x y
    cases h
    have e : (Op.equal t (.bool x) (.bool y)).run P w = .ok (x == y) w := equalIn_bool x y 9999 ht w
    simp only [eqGuard, binOp, Sem.run_bind]
    simp [bne, e]
theorem bin_sound {op : BinOp} {t : TypeId} {x y : Operand} (hev : ∀ c, ev (.const c) = c) (h : binV P op t ev x y = some v) (w : World) :
    (do eqGuard op t x y (ev x) (ev y); binOp op t (ev x) (ev y) : Sem Value).run P w = .ok v w := by
  unfold binV at h
  generalize hr : binRes P op t x y = r at h
  unfold binRes at hr
  split at hr
  · rename_i c hc
    subst hr
    split at hc <;> try contradiction
    rename_i he
    have hy := nilConst_ev hc
    subst hy
    rw [hev]
    exact (nil_sound (P := P) he hc h w).1
  · split at hr
    · rename_i c hc
      subst hr
      split at hc <;> try contradiction
      rename_i he
      have hy := nilConst_ev hc
      subst hy
      rw [hev]
      exact (nil_sound (P := P) he hc h w).2
    · split at hr
      · rename_i k ht
        split at hr
        · subst hr; exact shift_sound h w
        · rename_i hs; subst hr; exact arith_sound (by simpa using hs) h w
      · subst hr; exact str_sound h w
      · rename_i ht; subst hr; exact boolEq_sound ht h w
      · subst hr; simp at h
theorem places_run : ∀ (fs : List Field) (l : List (Nat × Nat)), (fs.mapM fun f => (P.info? f.type).map fun i => (f.offset, i.size)) = some l →
    ∀ w, (fs.mapM (m := Sem) fun f => Prod.mk f.offset <$> sizeOf f.type).run P w = .ok l w
  | [], l, h, w => by simp at h; subst h; rfl
  | f :: fs, l, h, w => by
    rw [List.mapM_cons] at h
    cases hi : P.info? f.type with
    | none => simp [hi] at h
    | some i =>
      cases hm : (fs.mapM fun f => (P.info? f.type).map fun i => (f.offset, i.size)) with
      | none => simp [hi, hm] at h
      | some l' =>
        simp [hi, hm] at h
        subst h
        simp [List.mapM_cons, run_sizeOf' hi, places_run fs l' hm w]
theorem nilAhead_run {P : Program} {t : TypeId} {w : Value} {name : String} (h : aheadP P t w name = true) (W : World) : (nilAhead (P.types.size + Made.depth) t w name).run P W = .ok (some false) W := by
  unfold aheadP at h
  split at h <;> try contradiction
  rename_i i hi
  split at h <;> try contradiction
  rename_i m hm
  split at h <;> try contradiction
  · rename_i hpath hf
    have hp : 0 < P.types.size := by simpa using h
    obtain ⟨n, hn⟩ : ∃ n, P.types.size + Made.depth = n + 1 := ⟨P.types.size + Made.depth - 1, by omega⟩
    rw [hn, nilAhead]
    simp [Sem.run_bind, typeInfo, hi, hm, hpath, followBlind, hf]
  · rename_i hpath hf
    split at h <;> try contradiction
    all_goals
      rename_i hu
      have hp : 0 < P.types.size := by simpa using h
      obtain ⟨n, hn⟩ : ∃ n, P.types.size + Made.depth = n + 1 := ⟨P.types.size + Made.depth - 1, by omega⟩
      rw [hn, nilAhead]
      simp [Sem.run_bind, typeInfo, hi, hm, hpath, followBlind, hf, run_underlying' hu]
theorem pureV_sound (hev : ∀ c, ev (.const c) = c) (h : pureV P ev o = some v) (w : World) : (execOp ev o).run P w = .ok (.value v) w := by
  obtain ⟨dst, op, type, pos, after, guard⟩ := o
  unfold execOp
  cases op <;> simp only [pureV] at h <;> try contradiction
  case move x => cases h; rfl
  case assign x => cases h; rfl
  case pick c a b =>
    unfold pickV at h
    split at h <;> try contradiction
    rename_i t hc
    cases h
    simp [hc, asBool]
  case nilCheck x =>
    unfold nilVP at h
    split at h <;> try contradiction
    · rename_i hx; cases h; simp only [hx]; rfl
    · rename_i hx; cases h; simp only [hx]; rfl
    · rename_i hx; cases h; simp only [hx]; rfl
    · rename_i name fx fy hx
      split at h <;> try contradiction
      rename_i t w' hx0
      split at h <;> try contradiction
      rename_i ha
      cases h
      have hn := nilAhead_run (P := P) ha w
      simp only [hx, hx0, Sem.run_bind, program, Sem.run, Result.andThen_ok, hn]
      rfl
  case unOp op t x =>
    refine run_v _ _ _ ?_
    unfold unV at h
    split at h <;> try contradiction
    all_goals (rename_i hx; cases h; simp [Op.unary, hx, Op.intArith, Op.intBits])
  case fieldAddr s x f =>
    refine run_v _ _ _ ?_
    split at h <;> try contradiction
    rename_i off size ag hf
    split at h <;> try contradiction
    rename_i hsz
    obtain ⟨fs, fd, hs, hfd, rfl, hag⟩ := fieldRes_spec hf
    obtain ⟨i, hi, rfl, _⟩ := aggSize_spec hag
    unfold fieldAddrV at h
    split at h <;> try contradiction
    rename_i a hx
    cases h
    simp [Instr.fieldAt, run_underlying' hs, hfd, hx, Instr.sureAddr, fieldPlace, run_sizeOf' hi, hsz]
  case field s x f =>
    refine run_v _ _ _ ?_
    split at h <;> try contradiction
    all_goals
      rename_i hf
      obtain ⟨fs, fd, hs, hfd, rfl, hag⟩ := fieldRes_spec hf
      obtain ⟨i, hi, rfl, hr⟩ := aggSize_spec hag
    · unfold fieldAggV at h
      split at h <;> try contradiction
      rename_i cs hx
      cases h
      simp [Instr.field, run_underlying' hs, hfd, hx, asAgg, part, hr, run_sizeOf' hi]
    · unfold fieldOneV at h
      split at h <;> try contradiction
      rename_i cs hx
      simp [Instr.field, run_underlying' hs, hfd, hx, asAgg, part, hr, h]
  case indexAddr t x i =>
    refine run_v _ _ _ ?_
    split at h <;> try contradiction
    · rename_i e ht
      split at h <;> try contradiction
      rename_i i' hi
      unfold elemAddrV at h
      split at h <;> try contradiction
      rename_i a len cap k n hx hn
      split at h <;> try contradiction
      rename_i hc
      cases h
      simp [Instr.indexAt, run_underlying' ht, hx, hn, asIntOf, hc, run_sizeOf' hi]
    · rename_i m e ht
      split at h <;> try contradiction
      rename_i hm
      split at h <;> try contradiction
      rename_i i' hi
      unfold arrAddrV at h
      split at h <;> try contradiction
      rename_i a k n hx hn
      split at h <;> try contradiction
      rename_i hc
      cases h
      simp [Instr.indexAt, run_underlying' ht, hx, hn, asIntOf, hc, run_sizeOf' hi, Instr.sureAddr]
  case index t x i =>
    refine run_v _ _ _ ?_
    split at h <;> try contradiction
    rename_i ht
    unfold strIndexV at h
    split at h <;> try contradiction
    rename_i s k n hx hn
    split at h <;> try contradiction
    rename_i b hb
    cases h
    simp only [Instr.index, Sem.run_bind, hn, asIntOf, Sem.run_pure, Result.andThen_ok, run_underlying' ht, hx, hb]
  case extract x i =>
    refine run_v _ _ _ ?_
    unfold extractV at h
    split at h <;> try contradiction
    rename_i vs hx
    simp [Instr.extract, hx, h]
  case slice t x lo hi mx =>
    refine run_v _ _ _ ?_
    split at h <;> try contradiction
    · rename_i ht
      split at h <;> try contradiction
      rename_i hmx
      have hmx' : mx = none := by simpa using hmx
      subst hmx'
      unfold strSliceV at h
      split at h <;> try contradiction
      rename_i s hx
      split at h <;> try contradiction
      rename_i l hh m hb
      cases h
      simp [Instr.sliceAt, Instr.slice, run_underlying' ht, hx, bounds_sound (P := P) (mx := none) rfl hb]
    · rename_i e ht
      split at h <;> try contradiction
      rename_i i' hi'
      split at h <;> try contradiction
      rename_i hmx
      unfold sliceV at h
      split at h <;> try contradiction
      rename_i a len cap hx
      split at h <;> try contradiction
      rename_i l hh m hb
      cases h
      have hm2 : ((mx.map ev).isSome && (hi.map ev).isNone) = false := by cases mx <;> cases hi <;> simp_all
      simp [Instr.sliceAt, Instr.slice, run_underlying' ht, hx, bounds_sound (P := P) hm2 hb, run_sizeOf' hi']
    · rename_i n e ht
      split at h <;> try contradiction
      rename_i i' hi'
      split at h <;> try contradiction
      rename_i hmx
      unfold arrSliceV at h
      split at h <;> try contradiction
      rename_i a hx
      split at h <;> try contradiction
      rename_i l hh m hb
      cases h
      have hm2 : ((mx.map ev).isSome && (hi.map ev).isNone) = false := by cases mx <;> cases hi <;> simp_all
      simp [Instr.sliceAt, run_underlying' ht, hx, Instr.sureAddr, bounds_sound (P := P) hm2 hb, run_sizeOf' hi']
  case makeInterface t x =>
    refine run_v _ _ _ ?_
    split at h <;> try contradiction
    rename_i hi
    cases h
    cases hd : P.underlying t with
    | none => simp [isIfaceT, hd] at hi
    | some d =>
      simp only [isIfaceT, hd] at hi
      simp only [Instr.makeInterface, Sem.run_bind, run_underlying' hd, Result.andThen_ok]
      cases d <;> first | rfl | (simp at hi; done)
  case makeFunc fn a b => cases h; rfl
  case binOp op t x y yt => exact run_v _ _ _ (bin_sound hev h w)
  case build t parts =>
    refine run_v _ _ _ ?_
    split at h <;> try contradiction
    rename_i places zero hb
    unfold buildRes at hb
    split at hb <;> try contradiction
    rename_i fs z ht hz
    cases hm : (fs.toList.mapM fun f => (P.info? f.type).map fun i => (f.offset, i.size)) with
    | none => simp [hm] at hb
    | some l =>
      simp only [hm, Option.map_some, Option.some.injEq, Prod.mk.injEq] at hb
      obtain ⟨rfl, rfl⟩ := hb
      cases hi : P.info? t with
      | none => simp [hi] at hz
      | some i =>
        simp only [hi, Option.bind_some] at hz
        cases hf : fillV l.toArray z.cells (parts.toList.map fun p => (p.1, ev p.2)) with
        | none => simp [hf] at h
        | some cs =>
          simp only [hf, Option.map_some, Option.some.injEq] at h
          subst h
          have hzv : ∀ w, (zeroValue t).run P w = .ok z w := fun w => by simp [zeroValue, run_typeInfo' hi, hz]
          have hpl := places_run (P := P) fs.toList l hm
          have hpa : ∀ w, (fs.mapM (m := Sem) fun f => Prod.mk f.offset <$> sizeOf f.type).run P w = .ok l.toArray w := fun w => by
            rw [Array.mapM_eq_mapM_toList]
            simp [hpl]
          unfold fillV at hf
          simp only [Instr.build, Sem.run_bind, hzv, run_underlying' ht, Result.andThen_ok, bind_pure_comp, hpa, Array.toList_map, hf]
          rfl
  case convert s d x =>
    refine run_v _ _ _ ?_
    split at h <;> try contradiction
    all_goals (rename_i hc; unfold convRes at hc; split at hc <;> try contradiction)
    all_goals (try (split at hc <;> try contradiction))
    · rename_i hs hd
      cases hc
      unfold intConvV at h
      split at h <;> try contradiction
      rename_i hx
      cases h
      simp [convert, run_underlying' hs, run_underlying' hd, hx, Conv.intToInt]
    · rename_i hs hd
      unfold sameStrV at h
      split at h <;> try contradiction
      rename_i hx
      cases h
      simp [convert, run_underlying' hs, run_underlying' hd, hx]
  case call c =>
    obtain ⟨callee, args, argTypes⟩ := c
    cases callee <;> simp only [] at h <;> try contradiction
    rename_i b
    have hb : ∀ (bx : Value), (∀ cs, (builtin b argTypes type cs (args.map ev)).run P w = .ok (.value bx) w) → bx = v →
        (do let d ← resolve ev ⟨.builtin b, args, argTypes⟩ type; invoke d.target d.args).run P w = .ok (.value v) w := fun bx h1 h2 => by
      subst h2
      simp only [resolve, invoke, Sem.run_bind, Sem.run_pure, Result.andThen_ok]
      exact h1 _
    split at h <;> try contradiction
    · rename_i x t rest ha hat
      refine hb v (fun cs => ?_) rfl
      have e1 : args.map ev = #[ev x] := by rw [← Array.toList_inj]; simp [ha]
      have e2 : argTypes[0]? = some t := by rw [← Array.getElem?_toList, hat]; rfl
      split at h
      · rename_i hsl
        unfold sliceLike at hsl
        split at hsl <;> try contradiction
        rename_i e ht
        unfold lenV at h
        split at h <;> try contradiction
        rename_i hx
        cases h
        simp [builtin, Builtin.len_, e1, e2, run_underlying' ht, hx, goInt]
      · split at h <;> try contradiction
        rename_i hsl
        unfold isStrT at hsl
        split at hsl <;> try contradiction
        rename_i ht
        unfold lenStrV at h
        split at h <;> try contradiction
        rename_i hx
        cases h
        simp [builtin, Builtin.len_, e1, e2, run_underlying' ht, hx, goInt]
    · rename_i x t rest ha hat
      refine hb v (fun cs => ?_) rfl
      have e1 : args.map ev = #[ev x] := by rw [← Array.toList_inj]; simp [ha]
      have e2 : argTypes[0]? = some t := by rw [← Array.getElem?_toList, hat]; rfl
      split at h <;> try contradiction
      rename_i hsl
      unfold sliceLike at hsl
      split at hsl <;> try contradiction
      rename_i e ht
      unfold capV at h
      split at h <;> try contradiction
      rename_i hx
      cases h
      simp [builtin, Builtin.cap_, e1, e2, run_underlying' ht, hx, goInt]
    · rename_i x y ha
      refine hb v (fun cs => ?_) rfl
      have e1 : args.map ev = #[ev x, ev y] := by rw [← Array.toList_inj]; simp [ha]
      unfold minV at h
      split at h <;> try contradiction
      rename_i hx hy
      cases h
      simp [builtin, Builtin.min_, Builtin.min2, e1, hx, hy]
    · rename_i x y ha
      refine hb v (fun cs => ?_) rfl
      have e1 : args.map ev = #[ev x, ev y] := by rw [← Array.toList_inj]; simp [ha]
      unfold maxV at h
      split at h <;> try contradiction
      rename_i hx hy
      cases h
      simp [builtin, Builtin.max_, Builtin.max2, e1, hx, hy]
theorem cells_run {H : Heap} {a : Addr} (w : World) (hw : w.heap = H) : ∀ (n i : Nat) (l : List Value) (acc : Array Value), cellsH H a i n = some l →
    (loadCellsFrom a i n acc).run P w = .ok (acc ++ l.toArray) w
  | 0, i, l, acc, h => by simp only [cellsH, Option.some.injEq] at h; subst h; simp [loadCellsFrom]
  | n + 1, i, l, acc, h => by
    simp only [cellsH] at h
    split at h <;> try contradiction
    rename_i v hv
    cases hr : cellsH H a (i + 1) n with
    | none => simp [hr] at h
    | some r =>
      simp only [hr, Option.map_some, Option.some.injEq] at h
      subst h
      have hl : (load (a.add i)).run P w = .ok v w := by
        have : w.cell? (a.add i) = some v := by rw [cellH_eq, hw]; exact hv
        simp [load, Sem.run, this]
      simp [loadCellsFrom, hl, cells_run w hw n (i + 1) r (acc.push v) hr]
theorem load1_sound {t : TypeId} {n : Nat} {x v : Value} {H : Heap} (ha : aggSize P t = some (n, false)) (h : load1V x H = some v) (w : World) (hw : w.heap = H) :
    (Instr.loadAt t x).run P w = .ok v w := by
  obtain ⟨i, hi, rfl, hr⟩ := aggSize_spec ha
  unfold load1V at h
  split at h <;> try contradiction
  rename_i a
  have : w.cell? a = some v := by rw [cellH_eq, hw]; exact h
  simp [Instr.loadAt, Instr.sureAddr, loadVar, hr, load, Sem.run, this]
theorem loadN_sound {t : TypeId} {n : Nat} {x v : Value} {H : Heap} (ha : aggSize P t = some (n, true)) (h : loadNV n x H = some v) (w : World) (hw : w.heap = H) :
    (Instr.loadAt t x).run P w = .ok v w := by
  obtain ⟨i, hi, rfl, hr⟩ := aggSize_spec ha
  unfold loadNV at h
  split at h <;> try contradiction
  rename_i a
  cases hc : cellsH H a 0 i.size with
  | none => simp [hc] at h
  | some l =>
    simp only [hc, Option.map_some, Option.some.injEq] at h
    subst h
    simp [Instr.loadAt, Instr.sureAddr, loadVar, hr, loadCells, run_sizeOf' hi, cells_run (P := P) w hw _ _ _ #[] hc]
end
end Go.Cps
