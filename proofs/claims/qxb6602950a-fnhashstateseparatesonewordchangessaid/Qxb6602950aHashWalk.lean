/- WORK: the walks of the hash. -/
import Derived.Test.Qxb6602950aMem
import Derived.Test.Qxb6602950aHashLaw
import Derived.RegionTactic
import Derived.ChangeAlike
import Derived.BigRegion
import Derived.Deep.QuietTactic
import Derived.BigQuiet
namespace Go.Proofs.Qxb6602950a
open Go.RowKit

theorem ret_u64 {a b : Int} (h : a = b) : Ending.returned (.int .u64 a) = .returned (.int .u64 b) := by rw [h]
def wd (a : Int) : UInt64 := UInt64.ofNat (a % 18446744073709551616).toNat
theorem wd_toNat (a : Int) : ((wd a).toNat : Int) = a % 18446744073709551616 := by
  unfold wd
  rw [UInt64.toNat_ofNat']
  have h1 : 0 ≤ a % 18446744073709551616 := Int.emod_nonneg _ (by decide)
  have h2 : a % 18446744073709551616 < 18446744073709551616 := Int.emod_lt_of_pos _ (by decide)
  omega
theorem toNat_lt' (h : UInt64) : h.toNat < 18446744073709551616 := h.toNat_lt
theorem mix_val (h x : UInt64) : (((Hash.mix h x).toNat : Nat) : Int) = IntKind.u64.wrap (bits .xor .u64 (h.toNat : Int) (x.toNat : Int) * 1099511628211) := by
  rw [bits_xor_u64_nat _ _ (toNat_lt' h) (toNat_lt' x), IntKind.wrap_u64]
  simp [Hash.mix, Hash.prime]

set_option maxHeartbeats 400000 in
theorem amounts_any (a b c d : Int) (w : World) :
    Calls Try.prog 19 #[.agg #[.int .i64 a, .int .i64 b, .int .i64 c, .int .i64 d]] w fun e w' =>
      e = .returned (.agg #[.int .i64 a, .int .i64 b, .int .i64 c, .int .i64 d]) ∧ Below w.heap.size w w' := by
  go_enter Try.func19, Try.ntmps19
  go_wp2
  go_region
  all_goals go_wp2
  exact bodyPost_ret (v := .agg #[.int .i64 a, .int .i64 b, .int .i64 c, .int .i64 d]) (by simp [results, Try.results19, go_sem]) rfl
    ⟨rfl, by repeat (first | exact Below.refl _ _ | (apply Below.drew) | (refine Below.alloc ?_ (by first | (simp; done) | (simp; omega)) _))⟩

theorem idx4 (a b c d : Value) (w : World) : (Instr.index 48 (.agg #[a, b, c, d]) (.int .i64 0)).run Try.prog w = .ok a w ∧ (Instr.index 48 (.agg #[a, b, c, d]) (.int .i64 1)).run Try.prog w = .ok b w ∧ (Instr.index 48 (.agg #[a, b, c, d]) (.int .i64 2)).run Try.prog w = .ok c w ∧ (Instr.index 48 (.agg #[a, b, c, d]) (.int .i64 3)).run Try.prog w = .ok d w := by
  refine ⟨?_, ?_, ?_, ?_⟩ <;> kernel_rfl
theorem idx2 (a b : Value) (w : World) : (Instr.index 46 (.agg #[a, b]) (.int .i64 0)).run Try.prog w = .ok a w ∧ (Instr.index 46 (.agg #[a, b]) (.int .i64 1)).run Try.prog w = .ok b w := by
  refine ⟨?_, ?_⟩ <;> kernel_rfl

theorem step_num (h : UInt64) (a : Int) : IntKind.u64.wrap (bits .xor .u64 ↑h.toNat (IntKind.u64.wrap a) * 1099511628211) = ((Hash.mix h (wd a)).toNat : Nat) := by
  rw [mix_val, wd_toNat, IntKind.wrap_u64 a]
theorem mix_num (h x : UInt64) : IntKind.u64.wrap (bits .xor .u64 ↑h.toNat ↑x.toNat * 1099511628211) = ((Hash.mix h x).toNat : Nat) := (mix_val h x).symm
theorem shr_num (h s : UInt64) (p : Nat) (hs : s.toNat < 64) (hp : 2 ^ s.toNat = p) : h.toNat / p = (h >>> s).toNat := by
  rw [UInt64.toNat_shiftRight, Nat.mod_eq_of_lt hs, Nat.shiftRight_eq_div_pow, hp]
theorem fin1_num (h : UInt64) : IntKind.u64.wrap (bits .xor .u64 ↑h.toNat (↑h.toNat / 1073741824) * 13787848793156543929) = ((Hash.fin1 h).toNat : Nat) := by
  have e := mixStep_u64 h.toNat 1073741824 13787848793156543929 (toNat_lt' h)
  rw [shr_num h 30 1073741824 (by decide) (by decide)] at e
  refine Eq.trans e ?_
  simp [Hash.fin1]
theorem fin2_num (h : UInt64) : IntKind.u64.wrap (bits .xor .u64 ↑h.toNat (↑h.toNat / 134217728) * 10723151780598845931) = ((Hash.fin2 h).toNat : Nat) := by
  have e := mixStep_u64 h.toNat 134217728 10723151780598845931 (toNat_lt' h)
  rw [shr_num h 27 134217728 (by decide) (by decide)] at e
  refine Eq.trans e ?_
  simp [Hash.fin2]
theorem fin3_num (h : UInt64) : bits .xor .u64 ↑h.toNat (↑h.toNat / 2147483648) = ((Hash.fin3 h).toNat : Nat) := by
  have e := xorShift_u64 h.toNat 2147483648 (toNat_lt' h)
  rw [shr_num h 31 2147483648 (by decide) (by decide)] at e
  refine Eq.trans e ?_
  simp [Hash.fin3]
/-- The words of the first k levels. -/
def lv (f g : Nat → Int) : Nat → List UInt64
  | 0 => []
  | k + 1 => lv f g k ++ [wd (f k), wd (g k)]
def words (a b c d : Int) (f g : Nat → Int) (n : Nat) (u v : UInt64) : List UInt64 := [wd a, wd b, wd c, wd d] ++ lv f g n ++ [u, v]

set_option maxHeartbeats 800000 in
theorem hash_any (a b c d : Int) (bl : Nat) (n cap : Nat) (f g : Nat → Int) (u v : UInt64) (w : World) (hn : n ≤ 1048576) (hbl : bl < w.heap.size)
    (hc : ∀ i, i < n → w.cell? ⟨bl, i * 2, none⟩ = some (.int .i64 (f i))) (hd : ∀ i, i < n → w.cell? ⟨bl, i * 2 + 1, none⟩ = some (.int .i64 (g i))) :
    Calls Try.prog 17 #[.agg #[.int .i64 a, .int .i64 b, .int .i64 c, .int .i64 d], .slice (some ⟨bl, 0, none⟩) n cap, .agg #[.int .u64 u.toNat, .int .u64 v.toNat]] w fun e w' =>
      e = .returned (.int .u64 ((Hash.fin (Hash.fold Hash.seed (words a b c d f g n u v))).toNat : Nat)) ∧ Below w.heap.size w w' := by
  have k0 := fun w => (idx4 (.int .i64 a) (.int .i64 b) (.int .i64 c) (.int .i64 d) w).1
  have k1 := fun w => (idx4 (.int .i64 a) (.int .i64 b) (.int .i64 c) (.int .i64 d) w).2.1
  have k2 := fun w => (idx4 (.int .i64 a) (.int .i64 b) (.int .i64 c) (.int .i64 d) w).2.2.1
  have k3 := fun w => (idx4 (.int .i64 a) (.int .i64 b) (.int .i64 c) (.int .i64 d) w).2.2.2
  go_enter Try.func17, Try.ntmps17
  go_wp2_with (first | (go_at_call 19; refine (amounts_any a b c d _).mono ?_; rintro e w1 ⟨rfl, hb1⟩))
  go_loop [7, 16] (fun h i => ∃ k : Nat, k ≤ 4 ∧ i = .int .i64 k ∧ h = .int .u64 ((Hash.fold Hash.seed ([wd a, wd b, wd c, wd d].take k)).toNat : Nat)) (fun _ i => 4 - (intOf i).toNat)
  case atStart => exact ⟨0, by omega, rfl, rfl⟩
  case round =>
    obtain ⟨k, hk, rfl, rfl⟩ := hrel
    rcases (show k = 0 ∨ k = 1 ∨ k = 2 ∨ k = 3 ∨ k = 4 from by omega) with rfl | rfl | rfl | rfl | rfl
    · go_wp2
      go_round
      case rel => exact ⟨1, by omega, by go_num, by rw [step_num]; simp only [List.take, Hash.fold, List.foldl]⟩
      case measure => simp [intOf]
    · go_wp2
      go_round
      case rel => exact ⟨2, by omega, by go_num, by rw [step_num]; simp only [List.take, Hash.fold, List.foldl]⟩
      case measure => simp [intOf]
    · go_wp2
      go_round
      case rel => exact ⟨3, by omega, by go_num, by rw [step_num]; simp only [List.take, Hash.fold, List.foldl]⟩
      case measure => simp [intOf]
    · go_wp2
      go_round
      case rel => exact ⟨4, by omega, by go_num, by rw [step_num]; simp only [List.take, Hash.fold, List.foldl]⟩
      case measure => simp [intOf]
    · go_wp2
      clear k0 k1 k2 k3
      have hsz := hb1.size
      have hbw : Below w.heap.size w w1 := (((Below.refl _ _).alloc (Nat.le_refl _) _).alloc (by simp) _).trans (hb1.mono (by simp; omega))
      have cu : w1.cell? ⟨w.heap.size + 1, 0, none⟩ = some (.int .u64 u.toNat) := (hb1.cell (by simp)).trans (by simp)
      have cv : w1.cell? ⟨w.heap.size + 1, 1, none⟩ = some (.int .u64 v.toNat) := (hb1.cell (by simp)).trans (by simp)
      clear hb1
      simp at hsz
      go_loopw [7, 27] (fun h i wr => ∃ k : Nat, k ≤ n ∧ i = .int .i64 k ∧ h = .int .u64 ((Hash.fold Hash.seed ([wd a, wd b, wd c, wd d] ++ lv f g k)).toNat : Nat) ∧ Below w1.heap.size w1 wr) (fun _ i _ => n - (intOf i).toNat)
      case atStart => exact ⟨0, by omega, rfl, by simp [lv], Below.refl _ _⟩
      case round =>
        obtain ⟨k, hk, rfl, rfl, hb2⟩ := hrel
        have hs2 := hb2.size
        by_cases hlt : k < n
        · have c1 := ((hb2.cell (p := ⟨bl, k * 2, none⟩) (by simp; omega)).trans (hbw.cell (by simpa using hbl))).trans (hc k hlt)
          have c2 := ((hb2.cell (p := ⟨bl, k * 2 + 1, none⟩) (by simp; omega)).trans (hbw.cell (by simpa using hbl))).trans (hd k hlt)
          go_wp2
          go_roundw
          case rel =>
            refine ⟨k + 1, by omega, by go_num, ?_, hb2.alloc hs2 _⟩
            rw [step_num, step_num]
            have e : wd a :: wd b :: wd c :: wd d :: lv f g k = [wd a, wd b, wd c, wd d] ++ lv f g k := rfl
            rw [e, lv, ← List.append_assoc, Hash.fold_append _ _ [wd (f k), wd (g k)]]
            rfl
          case measure => simp [intOf]; omega
        · have hkn : k = n := by omega
          subst hkn
          have cu2 := (hb2.cell (p := ⟨w.heap.size + 1, 0, none⟩) (by simp; omega)).trans cu
          have cv2 := (hb2.cell (p := ⟨w.heap.size + 1, 1, none⟩) (by simp; omega)).trans cv
          have j0 := fun w => (idx2 (.int .u64 u.toNat) (.int .u64 v.toNat) w).1
          have j1 := fun w => (idx2 (.int .u64 u.toNat) (.int .u64 v.toNat) w).2
          go_wp2
          refine wp_loop_rounds 3 ?_
          rw [rounds_succ]
          go_wp2
          rw [rounds_succ]
          go_wp2
          rw [rounds_succ]
          go_wp2
          go_ret
          refine ⟨ret_u64 ?_, hbw.trans (hb2.mono (by omega))⟩
          rw [mix_num, mix_num, fin1_num, fin2_num, fin3_num]
          have e : wd a :: wd b :: wd c :: wd d :: lv f g k = [wd a, wd b, wd c, wd d] ++ lv f g k := rfl
          rw [words, e, Hash.fold_append _ _ [u, v]]
          rfl
end Go.Proofs.Qxb6602950a
