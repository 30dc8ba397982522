/-
  Heap-level continuation semantics for Go functions: one proposition for each operation, over the heap alone.
  Conditions: none; every lemma here is about any program.
-/
import Derived.Still
import Derived.KernelRfl
import Derived.Laws.Sem
set_option linter.all false
namespace Go.Cps
open Go

/-- two worlds alike but for the heap and the count of draws -/
structure Same (w w' : World) : Prop where
  os : w'.os = w.os
  tape : w'.tape = w.tape
  output : w'.output = w.output
theorem Same.refl (w : World) : Same w w := ⟨rfl, rfl, rfl⟩
theorem Same.trans {a b c : World} (h : Same a b) (k : Same b c) : Same a c := ⟨k.os.trans h.os, k.tape.trans h.tape, k.output.trans h.output⟩

abbrev Heap := Array Obj

def at_ (H : Heap) : World := { (default : World) with heap := H }

/-- a call at heap level: it returns a value; what it leaves meets K -/
def CallsH (P : Program) (f : FuncId) (args : Array Value) (H : Heap) (K : Value → Heap → Prop) : Prop :=
  ∀ w, w.heap = H → Calls P f args w fun e w' => ∃ v, e = .returned v ∧ Same w w' ∧ K v w'.heap

theorem CallsH.mono {P : Program} {f : FuncId} {args : Array Value} {H : Heap} {K K' : Value → Heap → Prop} (h : CallsH P f args H K)
    (hk : ∀ v H', K v H' → K' v H') : CallsH P f args H K' :=
  fun w hw => (h w hw).mono fun _ _ ⟨v, he, hs, hK⟩ => ⟨v, he, hs, hk _ _ hK⟩

theorem CallsH.live {P : Program} {f : FuncId} {args : Array Value} {H : Heap} {K : Value → Heap → Prop} (h : CallsH P f args H K) : ∃ v H', K v H' := by
  obtain ⟨e, w', fr, ⟨v, _, _, hK⟩, _⟩ := h (at_ H) rfl []
  exact ⟨v, w'.heap, hK⟩

/-- what one operation's run must come to -/
def Good (P : Program) (w : World) (K : Value → Heap → Prop) : Result Next → Prop
  | .ok (.value v) w' => Same w w' ∧ K v w'.heap
  | .ok .skip w' => Same w w' ∧ K undef w'.heap
  | .ok (.enter f args) w' => Same w w' ∧ CallsH P f args w'.heap K
  | _ => False

def ExecH (P : Program) (s : Sem Next) (H : Heap) (K : Value → Heap → Prop) : Prop := ∀ w, w.heap = H → Good P w K (s.run P w)

theorem Good.mono {P : Program} {w : World} {K K' : Value → Heap → Prop} (hk : ∀ v H', K v H' → K' v H') {r : Result Next} (h : Good P w K r) : Good P w K' r := by
  cases r with
  | ok n w' =>
    cases n <;> simp only [Good] at h ⊢
    case value v => exact ⟨h.1, hk _ _ h.2⟩
    case skip => exact ⟨h.1, hk _ _ h.2⟩
    case enter f args => exact ⟨h.1, h.2.mono hk⟩
  | halt x w' => simp only [Good] at h

theorem Good.live {P : Program} {w : World} {K : Value → Heap → Prop} {r : Result Next} (h : Good P w K r) : ∃ v H', K v H' := by
  cases r with
  | ok n w' =>
    cases n <;> simp only [Good] at h
    case value v => exact ⟨_, _, h.2⟩
    case skip => exact ⟨_, _, h.2⟩
    case enter f args => exact h.2.live
  | halt x w' => simp only [Good] at h

theorem ExecH.mono {P : Program} {s : Sem Next} {H : Heap} {K K' : Value → Heap → Prop} (h : ExecH P s H K) (hk : ∀ v H', K v H' → K' v H') : ExecH P s H K' :=
  fun w hw => (h w hw).mono hk
theorem ExecH.live {P : Program} {s : Sem Next} {H : Heap} {K : Value → Heap → Prop} (h : ExecH P s H K) : ∃ v H', K v H' := (h (at_ H) rfl).live

/-- what is asked of the frame and the world at an exit -/
def lift (w₀ : World) (Q : Exit → Act → Heap → Prop) : Exit → Act → World → Prop := fun e a w => Same w₀ w ∧ Q e a w.heap

theorem wp_of_good {P : Program} {o : Oper} {a : Act} {w₀ w : World} {K : Value → Heap → Prop} {next : Act → World → Prop} {Q : Exit → Act → World → Prop}
    (hs : Same w₀ w) (hn : ∀ v w', Same w₀ w' → K v w'.heap → next (a.put o.dst v) w') (h : Good P w K ((execOp a.eval o).run P w)) : o.wp P a w next Q := by
  unfold Oper.wp
  generalize (execOp a.eval o).run P w = r at *
  cases r with
  | ok n w' =>
    cases n <;> simp only [Good] at h <;> simp only [Oper.upon]
    case value v => exact hn _ _ (hs.trans h.1) h.2
    case skip => exact hn _ _ (hs.trans h.1) h.2
    case enter f args =>
      refine (h.2 w' rfl).mono ?_
      rintro e w'' ⟨v, rfl, hs', hK⟩
      exact hn _ _ ((hs.trans h.1).trans hs') hK
  | halt x w' => simp only [Good] at h

theorem wrap_i64_eq (n : Int) : IntKind.i64.wrap n = if n % 18446744073709551616 ≥ 9223372036854775808 then n % 18446744073709551616 - 18446744073709551616 else n % 18446744073709551616 := by
  unfold IntKind.wrap
  simp [IntKind.bits, IntKind.signed]
theorem wrap_i64 {n : Int} (h1 : -9223372036854775808 ≤ n) (h2 : n ≤ 9223372036854775807) : IntKind.i64.wrap n = n := by
  rw [wrap_i64_eq]
  split <;> omega
theorem wrap_u8_eq (n : Int) : IntKind.u8.wrap n = n % 256 := by
  unfold IntKind.wrap
  simp [IntKind.bits, IntKind.signed]
theorem wrap_u8 {n : Int} (h1 : 0 ≤ n) (h2 : n ≤ 255) : IntKind.u8.wrap n = n := by
  rw [wrap_u8_eq]
  omega

/- cells of a heap -/
def cellH (H : Heap) (a : Addr) : Option Value :=
  match H[a.block]? with
  | some (.cells c _ _) => if a.spot.isSome then none else c[a.off]?
  | _ => none
def frozenH (H : Heap) (a : Addr) : Bool :=
  match H[a.block]? with
  | some (.cells _ _ (lo, hi)) => lo ≤ a.off && a.off < hi
  | _ => false
def setH (H : Heap) (a : Addr) (v : Value) : Heap :=
  H.modify a.block fun
    | .cells c elem frozen => .cells (if a.spot.isSome then c else c.setIfInBounds a.off v) elem frozen
    | o => o
theorem cellH_eq (w : World) (a : Addr) : w.cell? a = cellH w.heap a := rfl
theorem frozenH_eq (w : World) (a : Addr) : w.frozen? a = frozenH w.heap a := rfl
theorem setH_eq (w : World) (a : Addr) (v : Value) : (w.setCell a v).heap = setH w.heap a v := rfl
theorem Same.setCell (w : World) (a : Addr) (v : Value) : Same w (w.setCell a v) := ⟨rfl, rfl, rfl⟩

/-- n cells from a on -/
def cellsH (H : Heap) (a : Addr) : Nat → Nat → Option (List Value)
  | _, 0 => some []
  | i, n + 1 => match cellH H (a.add i) with
    | some v => (cellsH H a (i + 1) n).map (v :: ·)
    | none => none

def isOne : Value → Bool
  | .agg _ | .tuple _ => false
  | _ => true

/-- stores of a list of cells -/
def storesH (a : Addr) : Nat → List Value → Heap → Option Heap
  | _, [], H => some H
  | i, v :: r, H => if isOne v && (cellH H (a.add i)).isSome && !frozenH H (a.add i) then storesH a (i + 1) r (setH H (a.add i) v) else none

/- values out of values -/
def pickV (c x y : Value) : Option Value := match c with | .bool t => some (if t then x else y) | _ => none
def nilV : Value → Option Value
  | .pointer (some a) => some (.pointer (some a))
  | .iface t v => some (.iface t v)
  | .func (.func f) x y => some (.func (.func f) x y)
  | _ => none
def unV (op : UnOp) (x : Value) : Option Value :=
  match op, x with
  | .neg, .int k n => some (.int k (k.wrap (0 - n)))
  | .xor, .int k n => some (.int k (k.wrap (BitVec.ofInt k.bits (if k.signed then -1 else k.max) ^^^ BitVec.ofInt k.bits n).toNat))
  | .not, .bool b => some (.bool !b)
  | _, _ => none
def fieldAddrV (off : Nat) (x : Value) : Option Value := match x with | .pointer (some a) => some (.pointer (some (a.add off))) | _ => none
def fieldOneV (off : Nat) (x : Value) : Option Value := match x with | .agg cs => cs[off]? | _ => none
def fieldAggV (off n : Nat) (x : Value) : Option Value := match x with | .agg cs => some (.agg (cs.extract off (off + n))) | _ => none
def elemAddrV (size : Nat) (x i : Value) : Option Value :=
  match x, i with
  | .slice (some a) len _, .int _ n => if 0 ≤ n ∧ n < (len : Int) then some (.pointer (some (a.add (n.toNat * size)))) else none
  | _, _ => none
def arrAddrV (len size : Nat) (x i : Value) : Option Value :=
  match x, i with
  | .pointer (some a), .int _ n => if 0 ≤ n ∧ n < (len : Int) then some (.pointer (some (a.add (n.toNat * size)))) else none
  | _, _ => none
def strIndexV (x i : Value) : Option Value :=
  match x, i with
  | .string s, .int _ n => match (if 0 ≤ n then s[n.toNat]? else none) with | some b => some (.int .u8 b.toNat) | none => none
  | _, _ => none
def extractV (x : Value) (i : Nat) : Option Value := match x with | .tuple vs => vs[i]? | _ => none
def boundV (x : Option Value) (dflt top : Nat) : Option Nat :=
  match x with
  | none => some dflt
  | some (.int _ n) => if 0 ≤ n ∧ n ≤ (top : Int) then some n.toNat else none
  | _ => none
def boundsV (len cap : Nat) (lo hi mx : Option Value) : Option (Nat × Nat × Nat) :=
  match boundV mx cap cap with
  | none => none
  | some m => match boundV hi len m with
    | none => none
    | some h => match boundV lo 0 h with
      | none => none
      | some l => some (l, h, m)
def sliceV (size : Nat) (x : Value) (lo hi mx : Option Value) : Option Value :=
  match x with
  | .slice a len cap => match boundsV len cap lo hi mx with
    | some (l, h, m) => some (.slice (if m = l then a else a.map (·.add (l * size))) (h - l) (m - l))
    | none => none
  | _ => none
def arrSliceV (len size : Nat) (x : Value) (lo hi mx : Option Value) : Option Value :=
  match x with
  | .pointer (some a) => match boundsV len len lo hi mx with
    | some (l, h, m) => some (.slice (some (if m = l then a else a.add (l * size))) (h - l) (m - l))
    | none => none
  | _ => none
def strSliceV (x : Value) (lo hi : Option Value) : Option Value :=
  match x with
  | .string s => match boundsV s.size s.size lo hi none with
    | some (l, h, _) => some (.string (s.extract l h))
    | none => none
  | _ => none
def fillV (places : Array (Nat × Nat)) (zero : Array Value) (parts : List (Nat × Value)) : Option (Array Value) := Instr.fill (places[·]?) zero parts
def arithV (op : BinOp) (k : IntKind) (x y : Value) : Option Value :=
  match x, y with
  | .int k₁ a, .int k₂ b =>
    if k₁ = k ∧ k₂ = k then
      match op with
      | .add => some (.int k (k.wrap (a + b)))
      | .sub => some (.int k (k.wrap (a - b)))
      | .mul => some (.int k (k.wrap (a * b)))
      | .quo => if b = 0 then none else some (.int k (k.wrap (a.tdiv b)))
      | .rem => if b = 0 then none else some (.int k (a.tmod b))
      | .and => some (.int k (k.wrap (BitVec.ofInt k.bits a &&& BitVec.ofInt k.bits b).toNat))
      | .or => some (.int k (k.wrap (BitVec.ofInt k.bits a ||| BitVec.ofInt k.bits b).toNat))
      | .xor => some (.int k (k.wrap (BitVec.ofInt k.bits a ^^^ BitVec.ofInt k.bits b).toNat))
      | .andNot => some (.int k (k.wrap (BitVec.ofInt k.bits a &&& ~~~(BitVec.ofInt k.bits b)).toNat))
      | .eql => some (.bool (a == b))
      | .neq => some (.bool (a != b))
      | .lss => some (.bool (a < b))
      | .leq => some (.bool (a ≤ b))
      | .gtr => some (.bool (a > b))
      | .geq => some (.bool (a ≥ b))
      | _ => none
    else none
  | _, _ => none
def shiftV (op : BinOp) (k : IntKind) (x y : Value) : Option Value :=
  match x, y with
  | .int k₁ a, .int _ b =>
    if k₁ = k ∧ 0 ≤ b then
      match op with
      | .shl => some (.int k (k.wrap (a * 2 ^ (min b.toNat k.bits))))
      | .shr => some (.int k (a.fdiv (2 ^ (min b.toNat k.bits))))
      | _ => none
    else none
  | _, _ => none
def strV (op : BinOp) (x y : Value) : Option Value :=
  match x, y with
  | .string a, .string b =>
    match op with
    | .add => if (a.size + b.size : Nat) ≤ 9223372036854775807 then some (.string (a ++ b)) else none
    | .eql => some (.bool (a.toList == b.toList))
    | .neq => some (.bool !(a.toList == b.toList))
    | .lss => some (.bool (Op.bytesLess a.toList b.toList))
    | .leq => some (.bool (Op.bytesLess a.toList b.toList || a.toList == b.toList))
    | .gtr => some (.bool !(Op.bytesLess a.toList b.toList || a.toList == b.toList))
    | .geq => some (.bool !(Op.bytesLess a.toList b.toList))
    | _ => none
  | _, _ => none
def boolEqV (op : BinOp) (x y : Value) : Option Value :=
  match op, x, y with
  | .eql, .bool a, .bool b => some (.bool (a == b))
  | .neq, .bool a, .bool b => some (.bool (a != b))
  | _, _, _ => none
/-- a value against the literal nil -/
def isNilV : Value → Option Bool
  | .nilIface | .pointer none | .nilFunc | .map none => some true
  | .iface _ _ | .pointer (some _) | .func _ _ _ | .map (some _) => some false
  | .slice a _ _ => some a.isNone
  | _ => none
def nilEqV (op : BinOp) (x : Value) : Option Value :=
  match op with
  | .eql => (isNilV x).map .bool
  | .neq => (isNilV x).map fun b => .bool !b
  | _ => none
def intConvV (k : IntKind) (x : Value) : Option Value := match x with | .int _ n => some (.int k (k.wrap n)) | _ => none
def sameStrV (x : Value) : Option Value := match x with | .string s => some (.string s) | _ => none
def lenV (x : Value) : Option Value := match x with | .slice _ n _ => some (.int .i64 n) | _ => none
def lenStrV (x : Value) : Option Value := match x with | .string s => some (.int .i64 s.size) | _ => none
def capV (x : Value) : Option Value := match x with | .slice _ _ n => some (.int .i64 n) | _ => none
def minV (x y : Value) : Option Value := match x, y with | .int k a, .int _ b => some (.int k (if b < a then b else a)) | _, _ => none
def maxV (x y : Value) : Option Value := match x, y with | .int k a, .int _ b => some (.int k (if b > a then b else a)) | _, _ => none
end Go.Cps
