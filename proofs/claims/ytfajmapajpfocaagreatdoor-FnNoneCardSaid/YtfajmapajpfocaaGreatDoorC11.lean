/-
  Small words of the printed bodies.
  Conditions: none.
-/
import Derived.Test.YtfajmapajpfocaaGreatDoorC10
import Derived.Test.YtfajmapajpfocaaGreatDoorProg
set_option linter.all false
namespace Go.Cps
open Go Go.Proofs
theorem mixed : Tryz.prog.follows .mixedOrders = true := by kernel_rfl
def NewSl (cs : Array Value) (e n : Nat) (H : Heap) (K : Value → Heap → Prop) : Prop := K (.slice (some ⟨H.size, 0, none⟩) n n) (H.push (.cells cs e (0, 0)))
def NewMap (H : Heap) (K : Value → Heap → Prop) : Prop := K (.map (some H.size)) (H.push (.map #[] 0))
/-- a field of a struct behind a pointer -/
def Fld (off : Nat) (x : Value) (H : Heap) (K : Value → Prop) : Prop := Get (nilV x) fun y => Get (fieldAddrV off y) fun z => Get (load1V z H) K
end Go.Cps
