/- WORK: the walks of the hash: ZZHashState. -/
import Derived.Test.Qxb6602950aHashWalk
namespace Go.Proofs.Qxb6602950a
open Go.RowKit

theorem info44 : (Try.prog.info? 44).map (fun i => (i.zero, i.size, i.bytes)) = some (some (.agg #[.int .i64 0, .int .i64 0]), 2, 16) := by kernel_rfl
theorem run_make44 (n : Nat) (hn : n ≤ 1048576) (w : World) :
    (Instr.makeSlice 40 (.int .i64 (n : Int)) (.int .i64 (n : Int))).run Try.prog w = .ok (.slice (some ⟨w.heap.size, 0, none⟩) n n) (w.alloc (.cells (madeCells #[.int .i64 0, .int .i64 0] (n * 2)) 44)) := by
  obtain ⟨i, hi, hzz⟩ := Option.map_eq_some_iff.1 info44
  simp only [Prod.mk.injEq] at hzz
  obtain ⟨hz, hs, hb⟩ := hzz
  have hr := run_make (P := Try.prog) w 40 44 i _ Try.underlying40 hi hz .i64 .i64 n n (by omega) (Int.le_refl _) (by rw [hb]; omega) (by omega)
  rw [hs, Int.toNat_natCast] at hr
  exact hr
theorem rowIs_made44 (w : World) (n : Nat) : (w.alloc (.cells (madeCells #[.int .i64 0, .int .i64 0] (n * 2)) 44)).rowIs w.heap.size 44 (n * 2) (fun _ => .int .i64 0) := by
  refine ⟨_, Deep.blk_alloc_new _ _, size_madeCells _ _, fun i hi => ?_⟩
  have h2 : i % 2 = 0 ∨ i % 2 = 1 := by omega
  rcases h2 with h2 | h2 <;> simp [madeCells, hi, h2]
/-- The numbers of a row of levels, k of them laid. -/
def lvAt (f g : Nat → Int) (k j : Nat) : Int := if j / 2 < k then (if j % 2 = 0 then f (j / 2) else g (j / 2)) else 0
theorem lvAt_even (f g : Nat → Int) (k i : Nat) (h : i < k) : lvAt f g k (i * 2) = f i := by
  unfold lvAt
  have h1 : i * 2 / 2 = i := by omega
  have h2 : i * 2 % 2 = 0 := by omega
  rw [h1, h2, if_pos h, if_pos rfl]
theorem lvAt_odd (f g : Nat → Int) (k i : Nat) (h : i < k) : lvAt f g k (i * 2 + 1) = g i := by
  unfold lvAt
  have h1 : (i * 2 + 1) / 2 = i := by omega
  have h2 : ¬ (i * 2 + 1) % 2 = 0 := by omega
  rw [h1, if_pos h, if_neg h2]
theorem lvAt_succ (f g : Nat → Int) (k j : Nat) : lvAt f g (k + 1) j = if j = k * 2 + 1 then g k else if j = k * 2 then f k else lvAt f g k j := by
  by_cases h1 : j = k * 2 + 1
  · rw [if_pos h1, h1, lvAt_odd _ _ _ _ (by omega)]
  · rw [if_neg h1]
    by_cases h2 : j = k * 2
    · rw [if_pos h2, h2, lvAt_even _ _ _ _ (by omega)]
    · rw [if_neg h2]
      unfold lvAt
      have : (j / 2 < k + 1) ↔ (j / 2 < k) := by omega
      simp only [this]

set_option maxHeartbeats 400000 in
theorem zzhash_any (a b c d : Int) (x1 x2 : Addr) (n cap1 cap2 : Nat) (f g : Nat → Int) (u v : UInt64) (w : World) (hn : n ≤ 1048576)
    (hc : Rd w x1 n f) (hd : Rd w x2 n g) (hx1 : x1.block < w.heap.size) (hx2 : x2.block < w.heap.size) :
    Calls Try.prog 15 #[.agg #[.int .i64 a, .int .i64 b, .int .i64 c, .int .i64 d], .slice (some x1) n cap1, .slice (some x2) n cap2, .agg #[.int .u64 u.toNat, .int .u64 v.toNat]] w fun e w' =>
      e = .returned (.int .u64 ((Hash.fin (Hash.fold Hash.seed (words a b c d f g n u v))).toNat : Nat)) ∧ Below w.heap.size w w' := by
  have hmk := run_make44 n hn
  go_enter Try.func15, Try.ntmps15
  go_wp2
  go_loopw [11] (fun i wr => ∃ k : Nat, k ≤ n ∧ i = .int .i64 k ∧ wr.rowIs (w.heap.size + 2) 44 (n * 2) (fun j => .int .i64 (lvAt f g k j)) ∧ Below (w.heap.size + 2) ((w.alloc (.cells #[.int .i64 a, .int .i64 b, .int .i64 c, .int .i64 d] 35)).alloc (.cells #[.int .u64 u.toNat, .int .u64 v.toNat] 36)) wr ∧ wr.heap.size = w.heap.size + 3)
    (fun i _ => n - (intOf i).toNat)
  case atStart =>
    refine ⟨0, Nat.zero_le _, rfl, ?_, (Below.refl _ _).alloc (by simp) _, by simp⟩
    have := (rowIs_made44 ((w.alloc (.cells #[.int .i64 a, .int .i64 b, .int .i64 c, .int .i64 d] 35)).alloc (.cells #[.int .u64 u.toNat, .int .u64 v.toNat] 36)) n).congr (g := fun j => .int .i64 (lvAt f g 0 j)) (fun i _ => by simp [lvAt])
    simpa using this
  case round =>
    obtain ⟨k, hk, rfl, hrow, hb, hs⟩ := hrel
    have hbw : Below w.heap.size w wr := (((Below.refl _ _).alloc (Nat.le_refl _) _).alloc (by simp) _).trans (hb.mono (by omega))
    by_cases hlt : k < n
    · have hc1 : wr.cell? (x1.add k) = some (.int .i64 (f k)) := (hbw.cell (p := x1.add k) (by rw [add_block]; exact hx1)).trans (hc k hlt)
      have hc2 : wr.cell? (x2.add k) = some (.int .i64 (g k)) := (hbw.cell (p := x2.add k) (by rw [add_block]; exact hx2)).trans (hd k hlt)
      have hf1 := hrow.frozen (k * 2)
      have hf2 := hrow.frozen (k * 2 + 1)
      obtain ⟨v0, hv0⟩ : ∃ v0, wr.cell? ⟨w.heap.size + 2, k * 2, none⟩ = some (.int .i64 v0) := ⟨_, hrow.cell (by omega)⟩
      obtain ⟨v1, hv1⟩ : ∃ v0, wr.cell? ⟨w.heap.size + 2, k * 2 + 1, none⟩ = some (.int .i64 v0) := ⟨_, hrow.cell (by omega)⟩
      go_wp2
      go_region
      go_wp2
      go_roundw
      case rel =>
        refine ⟨k + 1, by omega, by go_num, ?_, ?_, by simpa using hs⟩
        · refine ((hrow.set (k * 2) (.int .i64 (f k))).set (k * 2 + 1) (.int .i64 (g k))).drew.congr (fun j hj => ?_)
          rw [lvAt_succ]
          by_cases h1 : j = k * 2 + 1
          · simp [h1]
          · by_cases h2 : j = k * 2
            · simp [h2]
            · simp [h1, h2]
        · exact ((hb.setCell (by simp) _).setCell (by simp) _).drew
      case measure => simp [intOf]; omega
    · have hkn : k = n := by omega
      subst hkn
      have l0 := (hb.cell (p := ⟨w.heap.size, 0, none⟩) (by simp)).trans (show _ = some (Value.int .i64 a) by simp)
      have l1 := (hb.cell (p := ⟨w.heap.size, 1, none⟩) (by simp)).trans (show _ = some (Value.int .i64 b) by simp)
      have l2 := (hb.cell (p := ⟨w.heap.size, 2, none⟩) (by simp)).trans (show _ = some (Value.int .i64 c) by simp)
      have l3 := (hb.cell (p := ⟨w.heap.size, 3, none⟩) (by simp)).trans (show _ = some (Value.int .i64 d) by simp)
      have l4 := (hb.cell (p := ⟨w.heap.size + 1, 0, none⟩) (by simp)).trans (show _ = some (Value.int .u64 u.toNat) by simp)
      have l5 := (hb.cell (p := ⟨w.heap.size + 1, 1, none⟩) (by simp)).trans (show _ = some (Value.int .u64 v.toNat) by simp)
      go_wp2_with fail
      refine (hash_any a b c d (w.heap.size + 1 + 1) k k f g u v wr hn (by omega) (fun i hi => by rw [hrow.cell (by omega), lvAt_even _ _ _ _ hi]) (fun i hi => by rw [hrow.cell (by omega), lvAt_odd _ _ _ _ hi])).mono ?_
      rintro e w2 ⟨rfl, hb3⟩
      go_wp2
      go_ret
      exact ⟨rfl, hbw.trans (hb3.mono (by omega))⟩

set_option maxHeartbeats 400000 in
/-- No level at all: whatever the two slices' addresses. -/
theorem zzhash_zero (a b c d : Int) (x1 x2 : Option Addr) (cap1 cap2 : Nat) (f g : Nat → Int) (u v : UInt64) (w : World) :
    Calls Try.prog 15 #[.agg #[.int .i64 a, .int .i64 b, .int .i64 c, .int .i64 d], .slice x1 0 cap1, .slice x2 0 cap2, .agg #[.int .u64 u.toNat, .int .u64 v.toNat]] w fun e w' =>
      e = .returned (.int .u64 ((Hash.fin (Hash.fold Hash.seed (words a b c d f g 0 u v))).toNat : Nat)) ∧ Below w.heap.size w w' := by
  have hmk : ∀ w : World, (Instr.makeSlice 40 (.int .i64 0) (.int .i64 0)).run Try.prog w = .ok (.slice (some ⟨w.heap.size, 0, none⟩) 0 0) (w.alloc (.cells (madeCells #[.int .i64 0, .int .i64 0] 0) 44)) := fun w => run_make44 0 (by omega) w
  go_enter Try.func15, Try.ntmps15
  go_wp2
  refine wp_loop_rounds 1 ?_
  rw [rounds_succ]
  go_wp2_with fail
  refine (hash_any a b c d (w.heap.size + 1 + 1) 0 0 f g u v _ (by omega) (by simp) (fun i hi => by omega) (fun i hi => by omega)).mono ?_
  rintro e w2 ⟨rfl, hb3⟩
  go_wp2
  go_ret
  refine ⟨rfl, ?_⟩
  refine ((((Below.refl _ _).alloc (Nat.le_refl _) _).alloc (by simp) _).alloc (by simp; omega) _).trans (hb3.mono (by simp; omega))

theorem zzhash_own (a b c d : Int) (x1 x2 : Option Addr) (n cap1 cap2 : Nat) (f g : Nat → Int) (u v : UInt64) (w : World) (hn : n ≤ 1048576) (hc : Own w x1 n f) (hd : Own w x2 n g) :
    Calls Try.prog 15 #[.agg #[.int .i64 a, .int .i64 b, .int .i64 c, .int .i64 d], .slice x1 n cap1, .slice x2 n cap2, .agg #[.int .u64 u.toNat, .int .u64 v.toNat]] w fun e w' =>
      e = .returned (.int .u64 ((Hash.fin (Hash.fold Hash.seed (words a b c d f g n u v))).toNat : Nat)) ∧ Below w.heap.size w w' := by
  rcases Nat.eq_zero_or_pos n with rfl | h0
  · exact zzhash_zero a b c d x1 x2 cap1 cap2 f g u v w
  rcases hc with hc | ⟨y1, rfl, hy1, hc⟩
  · omega
  rcases hd with hd | ⟨y2, rfl, hy2, hd⟩
  · omega
  exact zzhash_any a b c d y1 y2 n cap1 cap2 f g u v w hn hc hd hy1 hy2
end Go.Proofs.Qxb6602950a
