/- WORK: the cache in memory: its five cells, its two maps. -/
import Derived.Test.Qxb6603579aRows
import Derived.Test.Qxb6603579aLocks
import Derived.Conc.MuLone
import Derived.Maps.OwnSet
import Derived.WalkKit
import Derived.WalkSpells
import Derived.BigQuiet
import Derived.BigRegion
import Derived.Below
namespace Go.Proofs.Qxb6603579a
open Go.RowKit Go.Maps
open Go.MuLone
open Go.WideShapes

theorem law9 : Keyed Try.prog 9 := string_keyed Try.underlying9

/-- A Verified that holds a name alone. -/
abbrev vf (s : ByteArray) : Value := .agg #[.int .u8 0, .int .u8 0, .int .u8 0, .int .u8 0, .int .u8 0, .int .u8 0, .int .u8 0, .int .u8 0, .int .u8 0, .int .u8 0, .int .u8 0, .int .u8 0, .int .u8 0, .int .u8 0, .int .u8 0, .int .u8 0,
  .int .u8 0, .int .u8 0, .int .u8 0, .int .u8 0, .int .u8 0, .int .u8 0, .int .u8 0, .int .u8 0, .int .u8 0, .int .u8 0, .int .u8 0, .int .u8 0, .int .u8 0, .int .u8 0, .int .u8 0, .int .u8 0,
  .string (ByteArray.mk #[]), .string s, .slice none 0 0, .bool false, .pointer none, .int .u64 0, .int .i64 0, .pointer none]

theorem zero40 (w : World) : (zeroValue 40).run Try.prog w = .ok (vf (ByteArray.mk #[])) w := by kernel_rfl

theorem vf_inj {s t : ByteArray} (h : vf s = vf t) : s = t := by
  injection h with h
  injection h with h
  simp at h
  exact h

open Classical in
/-- How an element reads. -/
noncomputable def velem (v : Value) : Option (DataW Unit × List MemPlace) := if h : ∃ s, v = vf s then some (.lit (.string (Classical.choose h).data.toList), []) else none
theorem velem_mk (s : ByteArray) : velem (vf s) = some (.lit (.string s.data.toList), []) := by
  unfold velem
  have h : ∃ t, vf s = vf t := ⟨s, rfl⟩
  rw [dif_pos h, ← vf_inj (Classical.choose_spec h)]
theorem velem_inv {v : Value} {d : DataW Unit} {ps : List MemPlace} (h : velem v = some (d, ps)) : ∃ s, v = vf s ∧ d = .lit (.string s.data.toList) := by
  unfold velem at h
  split at h
  · rename_i h'
    simp at h
    exact ⟨_, Classical.choose_spec h', h.1.symm⟩
  · cases h

/-- The cache's five cells. -/
def CS (w : World) (C : Nat) (s sz : Int) (nv ov : Value) : Prop := w.heap[C]? = some (.cells #[.int .i32 s, .int .u32 0, .int .i64 sz, nv, ov] 64 (0, 0))
theorem CS.lt {w : World} {C : Nat} {s sz : Int} {nv ov : Value} (h : CS w C s sz nv ov) : C < w.heap.size := (Array.getElem?_eq_some_iff.1 h).1
theorem CS.c0 {w : World} {C : Nat} {s sz : Int} {nv ov : Value} (h : CS w C s sz nv ov) : w.cell? ⟨C, 0, none⟩ = some (.int .i32 s) := by
  unfold CS at h
  simp [World.cell?, h]
theorem CS.c2 {w : World} {C : Nat} {s sz : Int} {nv ov : Value} (h : CS w C s sz nv ov) : w.cell? ⟨C, 2, none⟩ = some (.int .i64 sz) := by
  unfold CS at h
  simp [World.cell?, h]
theorem CS.c3 {w : World} {C : Nat} {s sz : Int} {nv ov : Value} (h : CS w C s sz nv ov) : w.cell? ⟨C, 3, none⟩ = some nv := by
  unfold CS at h
  simp [World.cell?, h]
theorem CS.c4 {w : World} {C : Nat} {s sz : Int} {nv ov : Value} (h : CS w C s sz nv ov) : w.cell? ⟨C, 4, none⟩ = some ov := by
  unfold CS at h
  simp [World.cell?, h]
theorem CS.fz {w : World} {C : Nat} {s sz : Int} {nv ov : Value} (h : CS w C s sz nv ov) (i : Nat) : w.frozen? ⟨C, i, none⟩ = false := by
  unfold CS at h
  simp [World.frozen?, h]
theorem CS.set0 {w : World} {C : Nat} {s sz : Int} {nv ov : Value} (h : CS w C s sz nv ov) (s' : Int) : CS (w.setCell ⟨C, 0, none⟩ (.int .i32 s')) C s' sz nv ov := by
  unfold CS at h ⊢
  simp [World.setCell, Array.getElem?_modify, h]
theorem CS.set3 {w : World} {C : Nat} {s sz : Int} {nv ov : Value} (h : CS w C s sz nv ov) (v : Value) : CS (w.setCell ⟨C, 3, none⟩ v) C s sz v ov := by
  unfold CS at h ⊢
  simp [World.setCell, Array.getElem?_modify, h]
theorem CS.set4 {w : World} {C : Nat} {s sz : Int} {nv ov : Value} (h : CS w C s sz nv ov) (v : Value) : CS (w.setCell ⟨C, 4, none⟩ v) C s sz nv v := by
  unfold CS at h ⊢
  simp [World.setCell, Array.getElem?_modify, h]
theorem CS.kept {w w' : World} {C : Nat} {s sz : Int} {nv ov : Value} (h : CS w C s sz nv ov) (hb : w'.heap[C]? = w.heap[C]?) : CS w' C s sz nv ov := hb.trans h
end Go.Proofs.Qxb6603579a
