/- WORK: the law FnLevelsIgnoreOrderOfUsed: its walks. -/
import Derived.Test.Qxb6602950aLevPlain
namespace Go.Proofs.Qxb6602950a
open Go.RowKit

set_option maxHeartbeats 400000 in
theorem bytes12_no (n : Int) (x : Option Addr) (m c : Nat) (w : World) (h1 : m ≤ 9223372036854775807) (h : ¬ m ≤ 1048576) :
    Calls Try.prog 12 #[.int .i64 n, .slice x m c] w fun e w' => e = .returned (.bool false) ∧ w' = w := by
  go_enter Try.func12, Try.ntmps12
  go_wp2
  go_ret
  exact ⟨rfl, rfl⟩
set_option maxHeartbeats 400000 in
theorem bytes12_yes (n : Int) (x : Option Addr) (m c : Nat) (w : World) (h : m ≤ 1048576) :
    Calls Try.prog 12 #[.int .i64 n, .slice x m c] w fun e w' => e = .returned (.bool true) ∧ w' = w := by
  go_enter Try.func12, Try.ntmps12
  go_wp2
  go_ret
  exact ⟨rfl, rfl⟩
set_option maxRecDepth 100000 in
set_option maxHeartbeats 800000 in
/-- The early ways out. -/
theorem ignA (n : Int) (x : Option Addr) (m c : Nat) (w : World) (h1 : m ≤ 9223372036854775807) (h : ¬ m ≤ 131072 ∨ 65536 < n ∨ n < -65536 ∨ (m ≤ 131072 ∧ -65536 ≤ n ∧ n ≤ 65536 ∧ 131072 < m + n.toNat)) :
    Calls Try.prog 4 #[.int .i64 n, .slice x m c] w fun e w' => e = .returned (.bool true) ∧ w' = w := by
  by_cases g1 : m ≤ 1048576
  · by_cases g2 : m ≤ 131072
    · by_cases g3 : 65536 < n
      · go_enter Try.func4, Try.ntmps4
        go_wp2_with (go_at_call 12; refine (bytes12_yes n x m c _ g1).mono ?_; rintro e w' ⟨rfl, rfl⟩)
        go_ret
        exact ⟨rfl, rfl⟩
      · by_cases g4 : n < -65536
        · go_enter Try.func4, Try.ntmps4
          go_wp2_with (go_at_call 12; refine (bytes12_yes n x m c _ g1).mono ?_; rintro e w' ⟨rfl, rfl⟩)
          go_ret
          exact ⟨rfl, rfl⟩
        · have g5 : 131072 < m + n.toNat := by omega
          by_cases g6 : 0 < n
          · go_enter Try.func4, Try.ntmps4
            go_wp2_with (go_at_call 12; refine (bytes12_yes n x m c _ g1).mono ?_; rintro e w' ⟨rfl, rfl⟩)
            go_ret
            exact ⟨rfl, rfl⟩
          · omega
    · go_enter Try.func4, Try.ntmps4
      go_wp2_with (go_at_call 12; refine (bytes12_yes n x m c _ g1).mono ?_; rintro e w' ⟨rfl, rfl⟩)
      go_ret
      exact ⟨rfl, rfl⟩
  · go_enter Try.func4, Try.ntmps4
    go_wp2_with (go_at_call 12; refine (bytes12_no n x m c _ h1 g1).mono ?_; rintro e w' ⟨rfl, rfl⟩)
    go_ret
    exact ⟨rfl, rfl⟩
theorem src_of {w : World} {b : Nat} {n : Nat} {f : Nat → Int} {a : Option Addr} (h : n = 0 ∨ (a = some ⟨b, 0, none⟩ ∧ w.rowIs b 2 n (fun i => .int .i64 (f i)))) : Src w a n n (lst f n) := by
  refine ⟨lst_length f n, ?_, ?_⟩
  · intro e
    rcases h with h | ⟨h, _⟩
    · exact ⟨h, h⟩
    · rw [h] at e; cases e
  · intro x hx j u hu
    rw [List.getElem?_map] at hu
    by_cases hj : j < n
    · rcases h with h | ⟨h, hr⟩
      · omega
      · rw [hx] at h
        obtain rfl := Option.some.inj h
        rw [lst_get _ _ _ hj] at hu
        rw [add_zero_none, hr.cell hj]
        simpa using hu
    · rw [List.getElem?_eq_none (by rw [lst_length]; omega)] at hu
      cases hu
theorem row_gby {w w' : World} {b n t : Nat} {f : Nat → Value} (h : w.rowIs b t n f) (hg : w.grownBy w' none) : w'.rowIs b t n f := h.of_block (hg.block b h.lt (by simp))
end Go.Proofs.Qxb6602950a
