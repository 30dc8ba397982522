/-
  The proposition that a function's body comes to, over an environment of its named temporaries, by a plan.
  Conditions: none.
-/
import Derived.Test.YtfajmapajpfocaaGreatDoorC7
set_option linter.all false
namespace Go.Cps
open Go

abbrev Env := List (Nat × Value)
def look : Env → Nat → Option Value
  | [], _ => none
  | (k, v) :: r, t => bif Nat.beq k t then some v else look r t
def lookD (ρ : Env) (t : Nat) : Value := (look ρ t).getD undef
def evE (ρ : Env) : Operand → Value
  | .tmp t => lookD ρ t
  | .const v => v
  | .global g => .pointer (some ⟨g, 0, none⟩)
  | .func f => .func (.func f) #[] #[]
def known (ρ : Env) : Operand → Bool
  | .tmp t => (look ρ t).isSome
  | _ => true
def putE (n : Nat) (ρ : Env) (dst : Option Nat) (v : Value) : Env := match dst with | some d => (d, v) :: ρ | none => ρ

def Br (v : Value) (A B : Prop) : Prop := ∃ b : Bool, v = .bool b ∧ (b = true → A) ∧ (b = false → B)

def isSrc (ops : Array Oper) (i : Nat) : Bool := ops.toList.any fun o => match o.guard with | some (j, _) => Nat.beq j i | none => false

def recheckE (l : List Nat) (H : Heap) : Mem → Prop
  | [] => True
  | x :: r => bif l.contains x.1 then (x.2.1 H = some x.2.2 ∧ recheckE l H r) else recheckE l H r

/-- an operation's result goes into the environment; a bool that guards others is parted on -/
def after (n : Nat) (ops : Array Oper) (i : Nat) (o : Oper) (M : Env → Heap → Prop) (ρ : Env) (v : Value) (H : Heap) : Prop :=
  match o.dst with
  | some d => bif Nat.blt d n then
      (bif isSrc ops i then Br v (M ((d, .bool true) :: ρ) H) (M ((d, .bool false) :: ρ) H) else M ((d, v) :: ρ) H) else False
  | none => M ρ H

def dRunOp (P : Program) (n : Nat) (ops : Array Oper) (chk : Nat → List Nat) (i : Nat) (o : Oper) (D : Mem) (M : Mem → Env → Heap → Prop) (ρ : Env) (H : Heap) : Prop :=
  bif o.op.operands.toList.all (known ρ) then
    match kindOf P o with
    | .pure => match o.op with
      | .move x | .assign x => after n ops i o (M D) ρ (evE ρ x) H
      | .makeFunc fn a b => after n ops i o (M D) ρ (.func fn (a.map (evE ρ)) (b.map (evE ρ))) H
      | _ => Get (pureV P (evE ρ) o) fun v => after n ops i o (M D) ρ v H
    | .read => Get (readV P (evE ρ) H o) fun v => after n ops i o (M ((i, fun H' => readV P (evE ρ) H' o, v) :: D)) ρ v H
    | .eff => effP P (evE ρ) o H fun v H' => match chk i with
      | [] => after n ops i o (M D) ρ v H'
      | l => recheckE l H' D ∧ after n ops i o (M D) ρ v H'
  else False

def dOp (P : Program) (n : Nat) (ops : Array Oper) (chk : Nat → List Nat) (i : Nat) (o : Oper) (D : Mem) (M : Mem → Env → Heap → Prop) (ρ : Env) (H : Heap) : Prop :=
  match o.guard with
  | none => dRunOp P n ops chk i o D M ρ H
  | some (j, want) => match (ops[j]?).bind (·.dst) with
    | some d => match look ρ d, want with
      | some (.bool true), true | some (.bool false), false => dRunOp P n ops chk i o D M ρ H
      | some (.bool true), false | some (.bool false), true | some (.tuple _), _ => match o.dst with
        | some e => bif Nat.blt e n then M D ((e, undef) :: ρ) H else False
        | none => M D ρ H
      | _, _ => False
    | none => False

def dRun (P : Program) (n : Nat) (ops : Array Oper) (chk : Nat → List Nat) (K : Env → Heap → Prop) : List Nat → Mem → Env → Heap → Prop
  | [], _, ρ, H => K ρ H
  | i :: r, D, ρ, H => match ops[i]? with
    | some o => dOp P n ops chk i o D (dRun P n ops chk K r) ρ H
    | none => False

def chkOf (P : Program) (ops : Array Oper) (i : Nat) : List Nat :=
  match ops[i]? with
  | some o => match kindOf P o with
    | .eff => (List.range ops.size).filter fun r => (match ops[r]? with | some o' => (match kindOf P o' with | .read => true | _ => false) | none => false) &&
        !((masks ops).getD i 0).testBit r && !((masks ops).getD r 0).testBit i
    | _ => []
  | none => []

def dRegion (P : Program) (n : Nat) (ops : Array Oper) (draw : Bool) (L : List Nat) (K : Env → Heap → Prop) (ρ : Env) (H : Heap) : Prop :=
  bif draw then (bif orderB P ops (chkOf P ops) L then dRun P n ops (chkOf P ops) K L [] ρ H else False)
  else dRun P n ops (fun _ => []) K (List.range ops.size) [] ρ H

/-- how a body's proof is cut -/
inductive Plan where
  | leaf (order : List Nat)
  | seq (a b : Plan)
  | join (slots : List Nat) (a b : Plan)
  | cond (a b : Plan)
  | block (a : Plan)
  | loop (slots : List Nat) (a : Plan)

def opsDst (ops : Array Oper) : List Nat := ops.toList.filterMap (·.dst)
def written : Code → List Nat
  | .region _ ops _ => opsDst ops
  | .seq a b => written a ++ written b
  | .cond _ a b => written a ++ written b
  | .block _ a => written a
  | .loop a => written a
  | _ => []

def dropE (W : List Nat) (ρ : Env) : Env := ρ.filter fun x => !W.contains x.1
def nth (vs : List Value) (i : Nat) : Value := vs.getD i undef
def zipS : List Nat → Nat → List Value → Env
  | [], _, _ => []
  | s :: r, i, vs => (s, nth vs i) :: zipS r (i + 1) vs

def Join (A : (List Value → Heap → Prop) → Prop) (B : List Value → Heap → Prop) : Prop := ∃ J : List Value → Heap → Prop, A J ∧ ∀ vs H, J vs H → B vs H
def Loop (vs : List Value) (H : Heap) (body : (List Value → Heap → Prop) → List Value → Heap → Prop) : Prop :=
  ∃ I : Nat → List Value → Heap → Prop, (∃ n, I n vs H) ∧ ∀ n vs H, I n vs H → body (fun vs' H' => ∃ m, m < n ∧ I m vs' H') vs H

def givenS (sl : List Nat) (K : List Value → Heap → Prop) (ρ : Env) (H : Heap) : Prop := bif sl.all (fun s => (look ρ s).isSome) then K (sl.map (lookD ρ)) H else False

def den (P : Program) (n : Nat) : Plan → Code → (Exit → Env → Heap → Prop) → Env → Heap → Prop
  | .leaf L, c, Q, ρ, H => match c with
    | .region _ ops d => dRegion P n ops d L (Q .normal) ρ H
    | .skip => Q .normal ρ H
    | .ret => Q .ret ρ H
    | .exit id => Q (.exit id) ρ H
    | _ => False
  | .seq a b, c, Q, ρ, H => match c with
    | .seq x y => den P n a x (fun e ρ' H' => match e with
      | .normal => den P n b y Q ρ' H'
      | .ret => Q .ret ρ' H'
      | .exit id => Q (.exit id) ρ' H'
      | _ => False) ρ H
    | _ => False
  | .join sl a b, c, Q, ρ, H => match c with
    | .seq x y => bif sl.all (written x).contains then Join (fun K => den P n a x (fun e ρ' H' => match e with
      | .normal => givenS sl K ρ' H'
      | .ret => Q .ret ρ' H'
      | .exit id => Q (.exit id) ρ' H'
      | _ => False) ρ H) (fun vs H' => den P n b y Q (zipS sl 0 vs ++ dropE (written x) ρ) H') else False
    | _ => False
  | .cond a b, c, Q, ρ, H => match c with
    | .cond t x y => bif known ρ t then Br (evE ρ t) (den P n a x Q ρ H) (den P n b y Q ρ H) else False
    | _ => False
  | .block a, c, Q, ρ, H => match c with
    | .block id x => den P n a x (fun e ρ' H' => match e with
      | .normal => Q .normal ρ' H'
      | .ret => Q .ret ρ' H'
      | .exit id' => bif Nat.beq id' id then Q .normal ρ' H' else Q (.exit id') ρ' H'
      | _ => False) ρ H
    | _ => False
  | .loop sl a, c, Q, ρ, H => match c with
    | .loop x => bif sl.all (written x).contains then givenS sl (fun vs H => Loop vs H fun K vs' H' => den P n a x (fun e ρ' H'' => match e with
      | .normal => givenS sl K ρ' H''
      | .ret => Q .ret ρ' H''
      | .exit id => Q (.exit id) ρ' H''
      | _ => False) (zipS sl 0 vs' ++ dropE (written x) ρ) H') ρ H else False
    | _ => False

def resVals (P : Program) (ρ : Env) (H : Heap) : List ResultVar → (List Value → Prop) → Prop
  | [], K => K []
  | .tmp t :: r, K => bif (look ρ t).isSome then resVals P ρ H r (fun vs => K (lookD ρ t :: vs)) else False
  | .cell a t :: r, K => bif (look ρ a).isSome then (match aggSize P t with
    | some (n, true) => Get (loadNV n (lookD ρ a) H) fun v => resVals P ρ H r (fun vs => K (v :: vs))
    | some (_, false) => Get (load1V (lookD ρ a) H) fun v => resVals P ρ H r (fun vs => K (v :: vs))
    | none => False) else False
def one : List Value → Value
  | [v] => v
  | vs => .tuple vs.toArray
def retQ (P : Program) (res : List ResultVar) (R : Value → Heap → Prop) : Exit → Env → Heap → Prop := fun e ρ H => match e with
  | .normal | .ret => resVals P ρ H res fun vs => R (one vs) H
  | _ => False
def argEnv : Nat → List Value → Env
  | _, [] => []
  | i, v :: r => (i, v) :: argEnv (i + 1) r
end Go.Cps
