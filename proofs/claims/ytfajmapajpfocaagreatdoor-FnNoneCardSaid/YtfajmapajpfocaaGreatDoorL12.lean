/-
  The laying of the shelf at this program: bytes.growSlice; its contract at heap level.
  Conditions: none.
-/
import Derived.Shelf.Bytes.GrowSlice
import Derived.Test.YtfajmapajpfocaaGreatDoorL11
set_option linter.all false
namespace Go.Cps
open Go Go.Proofs Go.Shelf
set_option maxRecDepth 100000
def lay290_ren : Ren := ⟨fun x => match x with | 290 => 103 | 324 => 122 | n => n, fun x => match x with | 37 => 23 | 3 => 3 | 0 => 0 | 4 => 4 | 20 => 20 | 75 => 60 | 5 => 5 | 80 => 217 | 9 => 9 | n => n, fun x => match x with | 14 => 1 | n => n⟩
theorem lay290 : LaysM.n290 Tryz.prog lay290_ren :=
  { mixed := by kernel_rfl,
    f290 := by kernel_rfl,
    f324 := by kernel_rfl,
    t0 := by kernel_rfl,
    a0 := fun _ => by kernel_rfl,
    z0 := fun _ => by kernel_rfl,
    v0 := fun _ => by kernel_rfl,
    t3 := by kernel_rfl,
    a3 := fun _ => by kernel_rfl,
    z3 := fun _ => by kernel_rfl,
    v3 := fun _ => by kernel_rfl,
    t4 := by kernel_rfl,
    a4 := fun _ => by kernel_rfl,
    z4 := fun _ => by kernel_rfl,
    v4 := fun _ => by kernel_rfl,
    t20 := by kernel_rfl,
    a20 := fun _ => by kernel_rfl,
    z20 := fun _ => by kernel_rfl,
    v20 := fun _ => by kernel_rfl,
    t37 := by kernel_rfl,
    a37 := fun _ => by kernel_rfl,
    z37 := fun _ => by kernel_rfl,
    v37 := fun _ => by kernel_rfl,
    t75 := by kernel_rfl,
    a75 := fun _ => by kernel_rfl,
    z75 := fun _ => by kernel_rfl,
    v75 := fun _ => by kernel_rfl,
    g14 := by kernel_rfl,
    t5 := by kernel_rfl,
    a5 := fun _ => by kernel_rfl,
    z5 := fun _ => by kernel_rfl,
    v5 := fun _ => by kernel_rfl,
    t9 := by kernel_rfl,
    a9 := fun _ => by kernel_rfl,
    z9 := fun _ => by kernel_rfl,
    v9 := fun _ => by kernel_rfl,
    t80 := by kernel_rfl,
    a80 := fun _ => by kernel_rfl,
    z80 := fun _ => by kernel_rfl,
    v80 := fun _ => by kernel_rfl,
    i0 := by kernel_rfl,
    i3 := by kernel_rfl,
    i4 := by kernel_rfl,
    i5 := by kernel_rfl,
    i9 := by kernel_rfl,
    i20 := by kernel_rfl,
    i37 := by kernel_rfl,
    i75 := by kernel_rfl,
    i80 := by kernel_rfl,
    m14 := by kernel_rfl }
theorem below_frm {w w' : World} {H : Heap} (hw : w.heap = H) (h : Go.RowKit.Below w.heap.size w w') : Same w w' ∧ Frm [] H w'.heap := by
  subst hw
  exact ⟨⟨h.os, h.tape, h.output⟩, h.size, fun k hk _ => h.block k hk⟩

theorem growSlice_ok {g l c n : Nat} {cur : Array Value} {H : Heap} (hg : H[g]? = some (.cells cur 5 (0, 0))) (hcs : cur.size = c) (hlc : l ≤ c) (hn : 1 ≤ n) (hlim : l + n ≤ 2 ^ 46) (hc2 : c ≤ 2 ^ 46) (h1 : ∀ v ∈ cur.toList.take l, v.oneCell' = true) :
    CallsH Tryz.prog 103 #[.slice (some ⟨g, 0, none⟩) l c, .int .i64 n] H fun x H' => ∃ cap2 cells, x = .slice (some ⟨H.size, 0, none⟩) l cap2 ∧ H'[H.size]? = some (.cells cells 5 (0, 0)) ∧ cells.size = cap2 ∧ cells.toList.take l = cur.toList.take l ∧ l + n ≤ cap2 ∧ cap2 ≤ maxLen ∧ Frm [] H H' := by
  intro w hw
  subst hw
  refine (Any.bytes_growSlice_row lay290 g l c n cur w hg hcs hlc hn (by omega) (by omega) h1).mono ?_
  rintro e w' ⟨cap2, cells, rfl, h2, h3, h4, h5, h6, hb⟩
  obtain ⟨hs, hf⟩ := below_frm rfl hb
  exact ⟨_, rfl, hs, cap2, cells, rfl, h2, h3, h4, h5, h6, hf⟩

theorem growNil_ok {n : Nat} {H : Heap} (hn : 1 ≤ n) (hlim : n ≤ 2 ^ 46) :
    CallsH Tryz.prog 103 #[.slice none 0 0, .int .i64 n] H fun x H' => ∃ cap2 cells, x = .slice (some ⟨H.size, 0, none⟩) 0 cap2 ∧ H'[H.size]? = some (.cells cells 5 (0, 0)) ∧ cells.size = cap2 ∧ n ≤ cap2 ∧ cap2 ≤ maxLen ∧ Frm [] H H' := by
  intro w hw
  subst hw
  refine (Any.bytes_growSlice_nil lay290 n w hn (by omega)).mono ?_
  rintro e w' ⟨cap2, cells, rfl, h2, h3, h4, h6, hb⟩
  obtain ⟨hs, hf⟩ := below_frm rfl hb
  exact ⟨_, rfl, hs, cap2, cells, rfl, h2, h3, h4, h6, hf⟩
end Go.Cps
