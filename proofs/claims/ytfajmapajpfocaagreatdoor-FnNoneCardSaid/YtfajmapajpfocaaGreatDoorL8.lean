/-
  Interface values compared; type assertions that fail.
  Conditions: each its own.
-/
import Derived.Test.YtfajmapajpfocaaGreatDoorL7
import Derived.Test.YtfajmapajpfocaaGreatDoorG2
import Derived.LaidEqlPtr
set_option linter.all false
namespace Go.Cps
open Go Go.Proofs

theorem eqRun_nil (t : TypeId) (v : Value) (i j : Nat) (w : World) : (do eqGuard .eql 60 (.tmp i) (.tmp j) .nilIface (.iface t v); binOp .eql 60 .nilIface (.iface t v) : Sem Value).run Tryz.prog w = .ok (.bool false) w := by kernel_rfl
theorem und60 : ∃ ms, Tryz.prog.underlying 60 = some (.interface ms) := by
  have h : (match Tryz.prog.underlying 60 with | some (.interface _) => true | _ => false) = true := by kernel_rfl
  split at h
  · rename_i ms hm; exact ⟨ms, hm⟩
  · contradiction
theorem info138 : ∃ i, Tryz.prog.info? 138 = some i ∧ i.comparable = true := by
  have h : (Tryz.prog.info? 138).map (·.comparable) = some true := by kernel_rfl
  cases hi : Tryz.prog.info? 138 with
  | none => rw [hi] at h; simp at h
  | some i => rw [hi] at h; exact ⟨i, rfl, by simpa using h⟩
theorem und138 : Tryz.prog.underlying 138 = some (.pointer 140) := by kernel_rfl
theorem info140 : ∃ i, Tryz.prog.info? 140 = some i ∧ i.size ≠ 0 := by
  have h : (Tryz.prog.info? 140).map (·.size == 0) = some false := by kernel_rfl
  cases hi : Tryz.prog.info? 140 with
  | none => rw [hi] at h; simp at h
  | some i => rw [hi] at h; exact ⟨i, rfl, by simpa using h⟩

theorem eqRun_same (a : Addr) (i j : Nat) (w : World) : (do eqGuard .eql 60 (.tmp i) (.tmp j) (.iface 138 (.pointer (some a))) (.iface 138 (.pointer (some a))); binOp .eql 60 (.iface 138 (.pointer (some a))) (.iface 138 (.pointer (some a))) : Sem Value).run Tryz.prog w = .ok (.bool true) w := by
  obtain ⟨ms, h60⟩ := und60
  obtain ⟨i1, h138, hc⟩ := info138
  obtain ⟨i2, h140, hz⟩ := info140
  have h1 : ∀ d : Nat, (Op.equalIn (d + 1) 138 (.pointer (some a)) (.pointer (some a))).run Tryz.prog w = .ok true w := fun d => by
    simp [Op.equalIn, run_underlying und138, sizeOf, typeInfo, h140, run_sameAddr_same]
  have h2 : ∀ d : Nat, (Op.equalIn (d + 2) 60 (.iface 138 (.pointer (some a))) (.iface 138 (.pointer (some a)))).run Tryz.prog w = .ok true w := fun d => by
    rw [Op.equalIn]
    simp [run_underlying h60, typeInfo, h138, hc, h1 d]
  simp only [binOp, eqGuard]
  simp [Op.equal, Op.maxDepth, h2 9998]
theorem eqRun_other {a b : Addr} {ca cb : Array Value} {ta tb : TypeId} (hne : a ≠ b) (i j : Nat) (w : World) (ha : w.heap[a.block]? = some (.cells ca ta (0, 0))) (hb : w.heap[b.block]? = some (.cells cb tb (0, 0))) : (do eqGuard .eql 60 (.tmp i) (.tmp j) (.iface 138 (.pointer (some a))) (.iface 138 (.pointer (some b))); binOp .eql 60 (.iface 138 (.pointer (some a))) (.iface 138 (.pointer (some b))) : Sem Value).run Tryz.prog w = .ok (.bool false) w := by
  obtain ⟨ms, h60⟩ := und60
  obtain ⟨i1, h138, hc⟩ := info138
  obtain ⟨i2, h140, hz⟩ := info140
  have h1 : ∀ d : Nat, (Op.equalIn (d + 1) 138 (.pointer (some a)) (.pointer (some b))).run Tryz.prog w = .ok false w := fun d => by
    simp [Op.equalIn, run_underlying und138, sizeOf, typeInfo, h140, hz, run_sameAddr_other w hne ha hb]
  have h2 : ∀ d : Nat, (Op.equalIn (d + 2) 60 (.iface 138 (.pointer (some a))) (.iface 138 (.pointer (some b)))).run Tryz.prog w = .ok false w := fun d => by
    rw [Op.equalIn]
    simp [run_underlying h60, typeInfo, h138, hc, h1 d]
  simp only [binOp, eqGuard]
  simp [Op.equal, Op.maxDepth, h2 9998]
theorem assertRun (v : Value) (w : World) : (Instr.typeAssert (.iface 123 v) 77 121 true).run Tryz.prog w = .ok (.tuple #[.pointer none, .bool false]) w := by kernel_rfl

theorem ExecV.eq {P : Program} {s : Sem Value} {H : Heap} {K : Value → Heap → Prop} {v : Value} (h : ∀ w, w.heap = H → s.run P w = .ok v w) : ExecV P s H K = K v H := by
  apply propext
  unfold ExecV
  constructor
  · intro hh
    have h1 := hh (at_ H) rfl
    have h2 := h (at_ H) rfl
    generalize s.run P (at_ H) = q at *
    subst h2
    exact h1.2
  · intro hk w hw
    have h2 := h w hw
    generalize s.run P w = q at *
    subst h2
    exact ⟨Same.refl w, by rw [hw]; exact hk⟩
section
attribute [local irreducible] Sem.run
theorem tassert {r : Value} {H : Heap} {K : Value → Heap → Prop} : ExecV Tryz.prog (Instr.typeAssert (.iface 123 r) 77 121 true) H K = K (.tuple #[.pointer none, .bool false]) H := ExecV.eq fun w _ => assertRun r w
theorem eq_nil {t : TypeId} {v : Value} {i j : Nat} {H : Heap} {K : Value → Heap → Prop} : ExecV Tryz.prog (do eqGuard .eql 60 (.tmp i) (.tmp j) .nilIface (.iface t v); binOp .eql 60 .nilIface (.iface t v)) H K = K (.bool false) H :=
  ExecV.eq fun w _ => eqRun_nil t v i j w
theorem eq_same {a : Addr} {i j : Nat} {H : Heap} {K : Value → Heap → Prop} : ExecV Tryz.prog (do eqGuard .eql 60 (.tmp i) (.tmp j) (.iface 138 (.pointer (some a))) (.iface 138 (.pointer (some a))); binOp .eql 60 (.iface 138 (.pointer (some a))) (.iface 138 (.pointer (some a)))) H K = K (.bool true) H :=
  ExecV.eq fun w _ => eqRun_same a i j w
theorem eq_other {a b : Addr} {ca cb : Array Value} {ta tb : TypeId} {i j : Nat} {H : Heap} {K : Value → Heap → Prop} (hne : a ≠ b) (ha : H[a.block]? = some (.cells ca ta (0, 0))) (hb : H[b.block]? = some (.cells cb tb (0, 0))) : ExecV Tryz.prog (do eqGuard .eql 60 (.tmp i) (.tmp j) (.iface 138 (.pointer (some a))) (.iface 138 (.pointer (some b))); binOp .eql 60 (.iface 138 (.pointer (some a))) (.iface 138 (.pointer (some b)))) H K = K (.bool false) H :=
  ExecV.eq fun w hw => by subst hw; exact eqRun_other hne i j w ha hb
end
theorem bodyd39 : hasBody Tryz.prog 39 = true := by kernel_rfl
end Go.Cps
