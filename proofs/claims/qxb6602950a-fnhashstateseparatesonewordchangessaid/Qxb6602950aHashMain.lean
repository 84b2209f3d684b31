/- WORK: the law's own walk. -/
import Derived.Test.Qxb6602950aHashPlain
namespace Go.Proofs.Qxb6602950a
open Go.RowKit

def args5 (a0 a1 a2 a3 : Int) (x1 : Option Addr) (n1 c1 : Nat) (x2 : Option Addr) (n2 c2 : Nat) (a6 a7 a8 a9 : Int) : Array Value :=
  #[.int .i64 a0, .int .i64 a1, .int .i64 a2, .int .i64 a3, .slice x1 n1 c1, .slice x2 n2 c2, .int .u64 a6, .int .u64 a7, .int .i64 a8, .int .u64 a9]

set_option maxRecDepth 100000 in
set_option maxHeartbeats 400000 in
theorem lawA (a0 a1 a2 a3 : Int) (x1 x2 : Option Addr) (n1 n2 c1 c2 : Nat) (a6 a7 a8 a9 : Int) (w : World) (h1 : n1 ≤ 9223372036854775807) (h2 : n2 ≤ 9223372036854775807) (h : ¬ n1 + n2 ≤ 1048576) :
    Calls Try.prog 5 #[.int .i64 a0, .int .i64 a1, .int .i64 a2, .int .i64 a3, .slice x1 n1 c1, .slice x2 n2 c2, .int .u64 a6, .int .u64 a7, .int .i64 a8, .int .u64 a9] w fun e w' => e = .returned (.bool true) ∧ w' = w := by
  go_enter Try.func5, Try.ntmps5
  go_wp2_with (go_at_call 13; refine (bytes13_no a0 a1 a2 a3 x1 x2 n1 n2 c1 c2 a6 a7 a8 a9 _ h1 h2 h).mono ?_; rintro e w' ⟨rfl, rfl⟩)
  go_ret
  exact ⟨rfl, rfl⟩
set_option maxRecDepth 100000 in
set_option maxHeartbeats 400000 in
theorem lawB (a0 a1 a2 a3 : Int) (x1 x2 : Option Addr) (n1 n2 c1 c2 : Nat) (a6 a7 a8 a9 : Int) (w : World) (h : n1 + n2 ≤ 1048576) (h' : ¬ n1 + n2 ≤ 131072) :
    Calls Try.prog 5 #[.int .i64 a0, .int .i64 a1, .int .i64 a2, .int .i64 a3, .slice x1 n1 c1, .slice x2 n2 c2, .int .u64 a6, .int .u64 a7, .int .i64 a8, .int .u64 a9] w fun e w' => e = .returned (.bool true) ∧ w' = w := by
  by_cases g1 : n1 ≤ 131072
  · by_cases g2 : n2 ≤ 131072
    · go_enter Try.func5, Try.ntmps5
      go_wp2_with (go_at_call 13; refine (bytes13_yes a0 a1 a2 a3 x1 x2 n1 n2 c1 c2 a6 a7 a8 a9 _ h).mono ?_; rintro e w' ⟨rfl, rfl⟩)
      go_ret
      exact ⟨rfl, rfl⟩
    · go_enter Try.func5, Try.ntmps5
      go_wp2_with (go_at_call 13; refine (bytes13_yes a0 a1 a2 a3 x1 x2 n1 n2 c1 c2 a6 a7 a8 a9 _ h).mono ?_; rintro e w' ⟨rfl, rfl⟩)
      go_ret
      exact ⟨rfl, rfl⟩
  · go_enter Try.func5, Try.ntmps5
    go_wp2_with (go_at_call 13; refine (bytes13_yes a0 a1 a2 a3 x1 x2 n1 n2 c1 c2 a6 a7 a8 a9 _ h).mono ?_; rintro e w' ⟨rfl, rfl⟩)
    go_ret
    exact ⟨rfl, rfl⟩
set_option maxRecDepth 100000 in
set_option maxHeartbeats 400000 in
theorem lawC (a0 a1 a2 a3 : Int) (x1 x2 : Option Addr) (n1 n2 c1 c2 : Nat) (a6 a7 a8 a9 : Int) (w : World) (h : n1 + n2 ≤ 131072) (h' : ((n1 : Int) != (n2 : Int)) = true) :
    Calls Try.prog 5 #[.int .i64 a0, .int .i64 a1, .int .i64 a2, .int .i64 a3, .slice x1 n1 c1, .slice x2 n2 c2, .int .u64 a6, .int .u64 a7, .int .i64 a8, .int .u64 a9] w fun e w' => e = .returned (.bool true) ∧ w' = w := by
  go_enter Try.func5, Try.ntmps5
  go_wp2_with (go_at_call 13; refine (bytes13_yes a0 a1 a2 a3 x1 x2 n1 n2 c1 c2 a6 a7 a8 a9 _ (by omega)).mono ?_; rintro e w' ⟨rfl, rfl⟩)
  go_ret
  exact ⟨rfl, rfl⟩
set_option maxRecDepth 100000 in
set_option maxHeartbeats 400000 in
theorem lawD (a0 a1 a2 a3 : Int) (x1 x2 : Option Addr) (n c1 c2 : Nat) (a6 a7 a8 a9 : Int) (w : World) (h : n ≤ 65536) (h' : a8 < 0 ∨ 6 + 2 * (n : Int) ≤ a8) :
    Calls Try.prog 5 #[.int .i64 a0, .int .i64 a1, .int .i64 a2, .int .i64 a3, .slice x1 n c1, .slice x2 n c2, .int .u64 a6, .int .u64 a7, .int .i64 a8, .int .u64 a9] w fun e w' => e = .returned (.bool true) ∧ w' = w := by
  rcases h' with h' | h'
  · go_enter Try.func5, Try.ntmps5
    go_wp2_with (go_at_call 13; refine (bytes13_yes a0 a1 a2 a3 x1 x2 n n c1 c2 a6 a7 a8 a9 _ (by omega)).mono ?_; rintro e w' ⟨rfl, rfl⟩)
    go_ret
    exact ⟨rfl, rfl⟩
  · have h0 : ¬ a8 < 0 := by omega
    go_enter Try.func5, Try.ntmps5
    go_wp2_with (go_at_call 13; refine (bytes13_yes a0 a1 a2 a3 x1 x2 n n c1 c2 a6 a7 a8 a9 _ (by omega)).mono ?_; rintro e w' ⟨rfl, rfl⟩)
    go_ret
    exact ⟨rfl, rfl⟩
set_option maxRecDepth 100000 in
set_option maxHeartbeats 400000 in
theorem lawE (a0 a1 a2 a3 : Int) (x1 x2 : Option Addr) (n c1 c2 : Nat) (f g : Nat → Int) (u v W : UInt64) (p : Nat) (w : World) (h : n ≤ 65536) (hp : p < 6 + 2 * n) (hc : Own w x1 n f) (hd : Own w x2 n g)
    (hW : (((wordAt a0 a1 a2 a3 f g n u v p).toNat : Int) == (W.toNat : Int)) = true) :
    Calls Try.prog 5 #[.int .i64 a0, .int .i64 a1, .int .i64 a2, .int .i64 a3, .slice x1 n c1, .slice x2 n c2, .int .u64 u.toNat, .int .u64 v.toNat, .int .i64 p, .int .u64 W.toNat] w fun e w' => e = .returned (.bool true) ∧ w' = w := by
  go_enter Try.func5, Try.ntmps5
  go_wp2_with (first | (go_at_call 13; refine (bytes13_yes a0 a1 a2 a3 x1 x2 n n c1 c2 _ _ _ _ _ (by omega)).mono ?_; rintro e w' ⟨rfl, rfl⟩) | (go_at_call 14; refine (word_any a0 a1 a2 a3 x1 x2 n c1 c2 f g u v p _ (by omega) hc hd hp).mono ?_; rintro e w' ⟨rfl, rfl⟩))
  go_ret
  exact ⟨rfl, rfl⟩
end Go.Proofs.Qxb6602950a
