/- WORK: memory words that the walks of this seat share; zzClone64. -/
import Derived.Test.Qxb6602950aProg
import Derived.WalkKit
import Derived.WalkSpells
import Derived.WalkLawsBesides
import Derived.Deep.OwnRows
namespace Go.Proofs.Qxb6602950a
open Go.RowKit

theorem info2 : (Try.prog.info? 2).map (fun i => (i.zero, i.size, i.bytes)) = some (some (.int .i64 0), 1, 8) := by kernel_rfl

/-- A row of int64 that may be read: the numbers by index. -/
def Rd (w : World) (x : Addr) (n : Nat) (f : Nat → Int) : Prop := ∀ i, i < n → w.cell? (x.add i) = some (.int .i64 (f i))

theorem add_block (x : Addr) (k : Nat) : (x.add k).block = x.block := by unfold Addr.add; split <;> rfl

theorem cell_lt {w : World} {x : Addr} {v : Value} (h : w.cell? x = some v) : x.block < w.heap.size := by
  by_cases hb : x.block < w.heap.size
  · exact hb
  · have e : w.heap[x.block]? = none := Array.getElem?_eq_none (by omega)
    simp [World.cell?, e] at h

set_option maxHeartbeats 400000 in
theorem clone_nil (w : World) : Calls Try.prog 7 #[.slice none 0 0] w fun e w' => e = .returned (.slice none 0 0) ∧ w' = w := by
  have heq := fun w => Lib.run_eql_slice_nil (P := Try.prog) w 22 2 none 0 0 0 0 Try.underlying22
  go_enter Try.func7, Try.ntmps7
  go_wp2
  go_ret
  exact ⟨rfl, rfl⟩

set_option maxHeartbeats 400000 in
theorem clone_some (x : Addr) (n cap : Nat) (f : Nat → Int) (w : World) (hn : n ≤ 1048576) (hc : Rd w x n f) (hx0 : 0 < n → x.block < w.heap.size) :
    Calls Try.prog 7 #[.slice (some x) n cap] w fun e w' => e = .returned (.slice (some ⟨w.heap.size, 0, none⟩) n n) ∧
      w'.rowIs w.heap.size 2 n (fun i => .int .i64 (f i)) ∧ Below w.heap.size w w' ∧ w'.heap.size = w.heap.size + 1 := by
  have heq := fun w => Lib.run_eql_slice_nil (P := Try.prog) w 22 2 (some x) n cap 0 0 Try.underlying22
  have hmk := run_make_row' (P := Try.prog) 22 2 (.int .i64 0) 8 Try.underlying22 info2 rfl .i64 .i64 n (by omega) (by omega)
  go_enter Try.func7, Try.ntmps7
  go_wp2
  go_loopw [4] (fun i wr => ∃ k : Nat, k ≤ n ∧ i = .int .i64 k ∧ wr.rowIs w.heap.size 2 n (fun j => .int .i64 (if j < k then f j else 0)) ∧ Below w.heap.size w wr ∧ wr.heap.size = w.heap.size + 1)
    (fun i _ => n - (intOf i).toNat)
  case atStart =>
    refine ⟨0, Nat.zero_le _, rfl, ?_, (Below.refl _ _).alloc (Nat.le_refl _) _, by simp⟩
    exact (World.rowIs_made w (.int .i64 0) n 2).congr (fun i _ => by simp)
  case round =>
    obtain ⟨k, hk, rfl, hrow, hb, hs⟩ := hrel
    by_cases hlt : k < n
    · have hx := hx0 (by omega)
      have hcell : wr.cell? (x.add k) = some (.int .i64 (f k)) := (hb.cell (p := x.add k) (by rw [add_block]; exact hx)).trans (hc k hlt)
      have hfz := hrow.frozen k
      obtain ⟨v0, hv0⟩ : ∃ v0, wr.cell? ⟨w.heap.size, k, none⟩ = some (.int .i64 v0) := ⟨_, hrow.cell hlt⟩
      go_wp2
      go_roundw
      case rel =>
        refine ⟨k + 1, by omega, by go_num, ?_, hb.setCell (Nat.le_refl _) _, by simpa using hs⟩
        refine (hrow.set k (.int .i64 (f k))).congr (fun j hj => ?_)
        by_cases e : j = k
        · subst e; simp
        · by_cases e2 : j < k
          · simp [e, e2]; omega
          · simp [e, e2]; omega
      case measure => simp [intOf]; omega
    · go_wp2
      go_ret
      refine ⟨rfl, hrow.congr (fun j hj => ?_), hb, hs⟩
      have : j < k := by omega
      simp [this]

/-- What a law needs of a slice that it reads: no element, or a place whose cells hold the numbers. -/
def Own (w : World) (a : Option Addr) (n : Nat) (f : Nat → Int) : Prop := n = 0 ∨ ∃ x, a = some x ∧ x.block < w.heap.size ∧ Rd w x n f
theorem Own.below {w w' : World} {a : Option Addr} {n : Nat} {f : Nat → Int} (h : Own w a n f) (hb : Below w.heap.size w w') : Own w' a n f := by
  rcases h with h | ⟨x, rfl, hx, hc⟩
  · exact .inl h
  · exact .inr ⟨x, rfl, Nat.lt_of_lt_of_le hx hb.size, fun i hi => (hb.cell (by rw [add_block]; exact hx)).trans (hc i hi)⟩
theorem add_zero_none (b k : Nat) : (⟨b, 0, none⟩ : Addr).add k = ⟨b, k, none⟩ := by
  unfold Addr.add; split
  · rename_i h; rw [h]
  · simp
theorem own_row {w : World} {b n : Nat} {f : Nat → Int} (h : w.rowIs b 2 n (fun i => .int .i64 (f i))) : Own w (some ⟨b, 0, none⟩) n f :=
  .inr ⟨_, rfl, h.lt, fun i hi => by rw [add_zero_none]; exact h.cell hi⟩

theorem clone_own (a : Option Addr) (n cap : Nat) (f : Nat → Int) (w : World) (hn : n ≤ 1048576) (h : Own w a n f) (hnil : a = none → n = 0 ∧ cap = 0) :
    Calls Try.prog 7 #[.slice a n cap] w fun e w' => ∃ a', e = .returned (.slice a' n n) ∧ Below w.heap.size w w' ∧ (n = 0 ∨ (a' = some ⟨w.heap.size, 0, none⟩ ∧ w'.rowIs w.heap.size 2 n (fun i => .int .i64 (f i)))) := by
  cases a with
  | none =>
    obtain ⟨rfl, rfl⟩ := hnil rfl
    refine (clone_nil w).mono ?_
    rintro e w' ⟨rfl, rfl⟩
    exact ⟨none, rfl, Below.refl _ _, .inl rfl⟩
  | some x =>
    have hx0 : 0 < n → x.block < w.heap.size := fun h0 => by
      rcases h with h | ⟨y, hy, hx, _⟩
      · omega
      · obtain rfl := Option.some.inj hy; exact hx
    have hc : Rd w x n f := by
      rcases h with h | ⟨y, hy, _, hc⟩
      · intro i hi; omega
      · obtain rfl := Option.some.inj hy; exact hc
    refine (clone_some x n cap f w hn hc hx0).mono ?_
    rintro e w' ⟨rfl, hr, hb, _⟩
    exact ⟨_, rfl, hb, .inr ⟨rfl, hr⟩⟩
end Go.Proofs.Qxb6602950a
