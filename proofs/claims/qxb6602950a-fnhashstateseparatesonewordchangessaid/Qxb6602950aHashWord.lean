/- WORK: zzWordAt, zzBytes of the hash's law. -/
import Derived.Test.Qxb6602950aHashWalk2
namespace Go.Proofs.Qxb6602950a
open Go.RowKit

set_option maxHeartbeats 400000 in
theorem bytes13_no (a0 a1 a2 a3 : Int) (x1 x2 : Option Addr) (n1 n2 c1 c2 : Nat) (a6 a7 a8 a9 : Int) (w : World) (h1 : n1 ≤ 9223372036854775807) (h2 : n2 ≤ 9223372036854775807) (h : ¬ n1 + n2 ≤ 1048576) :
    Calls Try.prog 13 #[.int .i64 a0, .int .i64 a1, .int .i64 a2, .int .i64 a3, .slice x1 n1 c1, .slice x2 n2 c2, .int .u64 a6, .int .u64 a7, .int .i64 a8, .int .u64 a9] w fun e w' => e = .returned (.bool false) ∧ w' = w := by
  go_enter Try.func13, Try.ntmps13
  go_wp2
  all_goals first | (go_ret; exact ⟨rfl, rfl⟩) | omega
set_option maxHeartbeats 400000 in
theorem bytes13_yes (a0 a1 a2 a3 : Int) (x1 x2 : Option Addr) (n1 n2 c1 c2 : Nat) (a6 a7 a8 a9 : Int) (w : World) (h : n1 + n2 ≤ 1048576) :
    Calls Try.prog 13 #[.int .i64 a0, .int .i64 a1, .int .i64 a2, .int .i64 a3, .slice x1 n1 c1, .slice x2 n2 c2, .int .u64 a6, .int .u64 a7, .int .i64 a8, .int .u64 a9] w fun e w' => e = .returned (.bool true) ∧ w' = w := by
  go_enter Try.func13, Try.ntmps13
  go_wp2
  go_ret
  exact ⟨rfl, rfl⟩

/-- The p-th number of a state. -/
def wordAt (a b c d : Int) (f g : Nat → Int) (n : Nat) (u v : UInt64) (p : Nat) : UInt64 :=
  if p = 0 then wd a else if p = 1 then wd b else if p = 2 then wd c else if p = 3 then wd d else
  if p < 4 + 2 * n then (if (p - 4) % 2 = 0 then wd (f ((p - 4) / 2)) else wd (g ((p - 4) / 2))) else if p = 4 + 2 * n then u else v

set_option maxHeartbeats 1600000 in
theorem word_any (a b c d : Int) (x1 x2 : Option Addr) (n c1 c2 : Nat) (f g : Nat → Int) (u v : UInt64) (p : Nat) (w : World) (hn : n ≤ 1048576) (hc : Own w x1 n f) (hd : Own w x2 n g) (hp : p < 6 + 2 * n) :
    Calls Try.prog 14 #[.int .i64 a, .int .i64 b, .int .i64 c, .int .i64 d, .slice x1 n c1, .slice x2 n c2, .int .u64 u.toNat, .int .u64 v.toNat, .int .i64 p] w fun e w' => e = .returned (.int .u64 (wordAt a b c d f g n u v p).toNat) ∧ w' = w := by
  rcases (show p = 0 ∨ p = 1 ∨ p = 2 ∨ p = 3 ∨ (4 ≤ p ∧ p < 4 + 2 * n) ∨ p = 4 + 2 * n ∨ p = 5 + 2 * n from by omega) with rfl | rfl | rfl | rfl | ⟨h4, h5⟩ | h | h
  · go_enter Try.func14, Try.ntmps14
    go_wp2
    go_ret
    exact ⟨ret_u64 (by rw [IntKind.wrap_u64, ← wd_toNat]; rfl), rfl⟩
  · go_enter Try.func14, Try.ntmps14
    go_wp2
    go_ret
    exact ⟨ret_u64 (by rw [IntKind.wrap_u64, ← wd_toNat]; rfl), rfl⟩
  · go_enter Try.func14, Try.ntmps14
    go_wp2
    go_ret
    exact ⟨ret_u64 (by rw [IntKind.wrap_u64, ← wd_toNat]; rfl), rfl⟩
  · go_enter Try.func14, Try.ntmps14
    go_wp2
    go_ret
    exact ⟨ret_u64 (by rw [IntKind.wrap_u64, ← wd_toNat]; rfl), rfl⟩
  · rcases hc with hc | ⟨y1, rfl, hy1, hc⟩
    · omega
    rcases hd with hd | ⟨y2, rfl, hy2, hd⟩
    · omega
    have e1 := hc ((p - 4) / 2) (by omega)
    have e2 := hd ((p - 4) / 2) (by omega)
    clear hc hd
    by_cases he : (p - 4) % 2 = 0
    · have hW : Hid (wordAt a b c d f g n u v p = wd (f ((p - 4) / 2))) := by
        show _ = _
        unfold wordAt
        rw [if_neg (by omega), if_neg (by omega), if_neg (by omega), if_neg (by omega), if_pos h5, if_pos he]
      have he' : ((p : Int) - 4) % 2 = 0 := by omega
      clear he
      go_enter Try.func14, Try.ntmps14
      go_wp2
      go_ret
      exact ⟨ret_u64 (by rw [hW.out, IntKind.wrap_u64, ← wd_toNat]), rfl⟩
    · have hW : Hid (wordAt a b c d f g n u v p = wd (g ((p - 4) / 2))) := by
        show _ = _
        unfold wordAt
        rw [if_neg (by omega), if_neg (by omega), if_neg (by omega), if_neg (by omega), if_pos h5, if_neg he]
      have he' : ((p : Int) - 4) % 2 = 1 := by omega
      clear he
      go_enter Try.func14, Try.ntmps14
      go_wp2
      go_ret
      exact ⟨ret_u64 (by rw [hW.out, IntKind.wrap_u64, ← wd_toNat]), rfl⟩
  · have hW : Hid (wordAt a b c d f g n u v p = u) := by
      show _ = _
      unfold wordAt
      rw [if_neg (by omega), if_neg (by omega), if_neg (by omega), if_neg (by omega), if_neg (by omega), if_pos h]
    have e0 : ((p : Int) == 4 + 2 * (n : Int)) = true := by rw [beq_iff_eq]; omega
    have e1 : ¬ (p : Int) < 4 + 2 * (n : Int) := by omega
    have e2 : 4 ≤ p := by omega
    clear h
    go_enter Try.func14, Try.ntmps14
    go_wp2
    go_ret
    exact ⟨ret_u64 (by rw [hW.out]), rfl⟩
  · have hW : Hid (wordAt a b c d f g n u v p = v) := by
      show _ = _
      unfold wordAt
      rw [if_neg (by omega), if_neg (by omega), if_neg (by omega), if_neg (by omega), if_neg (by omega), if_neg (by omega)]
    have e0 : ((p : Int) == 4 + 2 * (n : Int)) = false := by rw [beq_eq_false_iff_ne]; omega
    have e1 : ¬ (p : Int) < 4 + 2 * (n : Int) := by omega
    have e2 : 4 ≤ p := by omega
    clear h
    go_enter Try.func14, Try.ntmps14
    go_wp2
    go_ret
    exact ⟨ret_u64 (by rw [hW.out]), rfl⟩
end Go.Proofs.Qxb6602950a
