/- WORK: the law FnLevelsIgnoreOrderOfUsed: the main way. -/
import Derived.Test.Qxb6602950aIgnWalk
namespace Go.Proofs.Qxb6602950a
open Go.RowKit

theorem gby_of_below {w w' : World} (h : Below w.heap.size w w') : w.grownBy w' none := ⟨h.os, h.tape, h.output, h.size, fun b hb _ => h.block b hb⟩
theorem lst_rev_perm (f : Nat → Int) (n : Nat) : (lst (fun i => f (n - 1 - i)) n).Perm (lst f n) := by rw [lst_rev]; exact List.reverse_perm _

theorem row_step {wr : World} {b n k : Nat} {f : Nat → Int} (h : wr.rowIs b 2 n (fun j => .int .i64 (if j < k then f j else 0))) (v : Int) (hv : v = f k) :
    (wr.setCell ⟨b, k, none⟩ (.int .i64 v)).rowIs b 2 n (fun j => .int .i64 (if j < k + 1 then f j else 0)) := by
  refine (h.set k (.int .i64 v)).congr (fun j hj => ?_)
  by_cases e : j = k
  · subst e; rw [if_pos rfl, if_pos (by omega), hv]
  · rw [if_neg e]
    by_cases e2 : j < k
    · rw [if_pos e2, if_pos (by omega)]
    · rw [if_neg e2, if_neg (by omega)]
theorem row_done {wr : World} {b n : Nat} {f : Nat → Int} (h : wr.rowIs b 2 n (fun j => .int .i64 (if j < n then f j else 0))) : wr.rowIs b 2 n (fun j => .int .i64 (f j)) := h.congr (fun j hj => by rw [if_pos hj])
theorem row_made (w : World) (n : Nat) (f : Nat → Int) : (w.alloc (.cells (madeCells #[.int .i64 0] n) 2)).rowIs w.heap.size 2 n (fun j => .int .i64 (if j < 0 then f j else 0)) :=
  (World.rowIs_made w (.int .i64 0) n 2).congr (fun i _ => by simp)
theorem row_drewN {w : World} {b n t : Nat} {f : Nat → Value} (h : w.rowIs b t n f) (k : Nat) : (w.drewN k).rowIs b t n f := h.of_block rfl

set_option maxRecDepth 100000 in
set_option maxHeartbeats 4000000 in
theorem ignF (n : Int) (x : Option Addr) (m c : Nat) (f : Nat → Int) (w : World) (hm : m ≤ 131072) (hn : n ≤ 65536) (hn' : -65536 ≤ n) (hmn : m + n.toNat ≤ 131072) (hx : Own w x m f) (hnil : x = none → m = 0 ∧ c = 0) :
    Calls Try.prog 4 #[.int .i64 n, .slice x m c] w fun e w' => e = .returned (.bool true) ∧ Below w.heap.size w w' := by
  have hmk := run_make_row' (P := Try.prog) 22 2 (.int .i64 0) 8 Try.underlying22 info2 rfl .i64 .i64 m (by omega) (by omega)
  rcases (show (0 < n ∧ (m : Int) < n) ∨ (0 < n ∧ n ≤ m) ∨ (n ≤ 0 ∧ n ≤ m) from by omega) with ⟨g, hd⟩ | ⟨g, hd⟩ | ⟨g, hd⟩
  all_goals
    go_enter Try.func4, Try.ntmps4
    go_wp2_with (go_at_call 12; refine (bytes12_yes n x m c _ (by omega)).mono ?_; rintro e w' ⟨rfl, rfl⟩)
    refine (clone_own x m c f _ (by omega) hx hnil).mono ?_
    rintro e w1 ⟨y, rfl, hb1, ho1⟩
    have s1 := src_of ho1
    go_wp2_with fail
    refine (zzlevels n y m m (lst f m) none 0 0 [] w1.heap.size none w1 hn hn' hm s1 rfl (World.ownsRow_nil _ _ _ _) (Nat.le_refl _) rfl (lev n (lst f m)) rfl).mono ?_
    rintro e w2 ⟨b1, b2, tv1, rfl, r1, r2, _, hg2⟩
    have hLl := lev_length n (lst f m) hn (by rw [lst_length]; exact hm)
    generalize hL : lev n (lst f m) = L at r1 r2 hLl ⊢
    have HL : Hid _ := hL
    clear hL s1 hx hnil
    go_wp2
    go_loopw [10] (fun i wr => ∃ k : Nat, k ≤ m ∧ i = .int .i64 k ∧ wr.rowIs w2.heap.size 2 m (fun j => .int .i64 (if j < k then (fun i => f (m - 1 - i)) j else 0)) ∧ Below w2.heap.size w2 wr) (fun i _ => m - (intOf i).toNat)
    case atStart => exact ⟨0, Nat.zero_le _, rfl, row_made w2 m _, (Below.refl _ _).alloc (Nat.le_refl _) _⟩
    case round =>
      obtain ⟨k, hk, rfl, hrow, hb⟩ := hrel
      by_cases hlt : k < m
      · rcases ho1 with ho1 | ⟨rfl, ho1⟩
        · omega
        have hc := (row_gby ho1 (gby_trans hg2 (gby_of_below hb) (fun b h => by cases h))).cell (i := m - 1 - k) (by omega)
        have hfz := hrow.frozen k
        obtain ⟨v0, hv0⟩ : ∃ v0, wr.cell? ⟨w2.heap.size, k, none⟩ = some (.int .i64 v0) := ⟨_, hrow.cell hlt⟩
        have HW : Hid _ := And.intro (row_step hrow (f (m - 1 - k)) rfl) (show Below w2.heap.size w2 (wr.setCell ⟨w2.heap.size, k, none⟩ (.int .i64 (f (m - 1 - k)))) from hb.setCell (Nat.le_refl _) _)
        clear hrow ho1
        go_wp2
        go_roundw
        case rel => exact ⟨k + 1, by omega, by go_num, HW.out⟩
        case measure => simp [intOf]; omega
      · have hkm : m = k := by omega
        subst hkm
        have rr := row_done hrow
        clear hrow
        go_wp2_with fail
        refine (zzlevels n (some ⟨w2.heap.size, 0, none⟩) m m (lst (fun i => f (m - 1 - i)) m) none 0 0 [] wr.heap.size none wr hn hn' hm (src_of (.inr ⟨rfl, rr⟩)) rfl (World.ownsRow_nil _ _ _ _) (Nat.le_refl _) rfl L (by rw [lev_perm n (lst_rev_perm f m)]; exact HL.out)).mono ?_
        rintro e w4 ⟨b3, b4, tv2, rfl, r3, r4, _, hg4⟩
        have hg24 : w2.grownBy w4 none := gby_trans (gby_of_below hb) hg4 (fun b h => by cases h)
        have hg14 : w1.grownBy w4 none := gby_trans hg2 hg24 (fun b h => by cases h)
        have r1' := row_gby r1 hg24
        have r2' := row_gby r2 hg24
        clear r1 r2 hb hg4 rr hg2 hg24
        go_wp2
        go_loopw [15] (fun i wr => ∃ k : Nat, k ≤ m ∧ i = .int .i64 k ∧ wr.rowIs w4.heap.size 2 m (fun j => .int .i64 (if j < k then (fun i => f ((i + 1) % m)) j else 0)) ∧ Below w4.heap.size w4 wr) (fun i _ => m - (intOf i).toNat)
        case atStart => exact ⟨0, Nat.zero_le _, rfl, row_made w4 m _, (Below.refl _ _).alloc (Nat.le_refl _) _⟩
        case round =>
          obtain ⟨k, hk, rfl, hrow, hb⟩ := hrel
          by_cases hlt : k < m
          · rcases ho1 with ho1 | ⟨rfl, ho1⟩
            · omega
            have hmod : (k + 1) % m < m := Nat.mod_lt _ (by omega)
            have hmodI : ((k : Int) + 1) % (m : Int) < (m : Int) := Int.emod_lt_of_pos _ (by omega)
            have hmodI0 : 0 ≤ ((k : Int) + 1) % (m : Int) := Int.emod_nonneg _ (by omega)
            have hc := (row_gby ho1 (gby_trans hg14 (gby_of_below hb) (fun b h => by cases h))).cell (i := (k + 1) % m) hmod
            have hfz := hrow.frozen k
            obtain ⟨v0, hv0⟩ : ∃ v0, wr.cell? ⟨w4.heap.size, k, none⟩ = some (.int .i64 v0) := ⟨_, hrow.cell hlt⟩
            have HW : Hid _ := And.intro (row_step hrow (f ((k + 1) % m)) rfl) (show Below w4.heap.size w4 (wr.setCell ⟨w4.heap.size, k, none⟩ (.int .i64 (f ((k + 1) % m)))) from hb.setCell (Nat.le_refl _) _)
            clear hrow ho1
            go_wp2
            go_roundw
            case rel => exact ⟨k + 1, by omega, by go_num, HW.out⟩
            case measure => simp [intOf]; omega
          · have hkm : m = k := by omega
            subst hkm
            have rr := row_done hrow
            clear hrow
            go_wp2_with fail
            refine (zzlevels n (some ⟨w4.heap.size, 0, none⟩) m m (lst (fun i => f ((i + 1) % m)) m) none 0 0 [] wr.heap.size none wr hn hn' hm (src_of (.inr ⟨rfl, rr⟩)) rfl (World.ownsRow_nil _ _ _ _) (Nat.le_refl _) rfl L (by rw [lev_perm n (lst_rot f m)]; exact HL.out)).mono ?_
            rintro e w6 ⟨b5, b6, tv3, rfl, r5, r6, _, hg6⟩
            have hg46 : w4.grownBy w6 none := gby_trans (gby_of_below hb) hg6 (fun b h => by cases h)
            have hg16 : w1.grownBy w6 none := gby_trans hg14 hg46 (fun b h => by cases h)
            have q1 := row_gby r1' hg46
            have q2 := row_gby r2' hg46
            have q3 := row_gby r3 hg46
            have q4 := row_gby r4 hg46
            clear r1' r2' r3 r4 hb hg6 rr hg14 hg46
            go_wp2_with fail
            refine (equal_own _ _ L.length _ _ _ _ hLl (own_row q1) (own_row q3)).mono ?_
            rintro e v1 ⟨rfl, k1, rfl⟩
            go_wp2_with fail
            refine (equal_own _ _ L.length _ _ _ _ hLl (own_row (row_drewN q2 _)) (own_row (row_drewN q4 _))).mono ?_
            rintro e v2 ⟨rfl, k2, rfl⟩
            go_wp2_with fail
            refine (equal_own _ _ L.length _ _ _ _ hLl (own_row (row_drewN q1 _)) (own_row (row_drewN r5 _))).mono ?_
            rintro e v3 ⟨rfl, k3, rfl⟩
            go_wp2_with fail
            refine (equal_own _ _ L.length _ _ _ _ hLl (own_row (row_drewN q2 _)) (own_row (row_drewN r6 _))).mono ?_
            rintro e v4 ⟨rfl, k4, rfl⟩
            have HF : Hid (Below w'.heap.size w' w6) := hb1.trans (gby_below hg16 hb1.size (fun b h => by cases h))
            have hq : ∀ i, i < L.length → w6.cell? ⟨b2, i, none⟩ = some (.int .i64 ((L.map (·.2)).getD i 0)) := fun i hi => by
              rw [q2.cell hi]; simp [hi]
            have hsum := lev_sum n (lst f m)
            have hle := lev_le n (lst f m)
            have hpos := lev_pos n (lst f m)
            rw [HL.out] at hsum hle hpos
            rw [lst_length] at hsum hle
            clear q1 q2 q3 q4 r5 r6 hg16 ho1 HL hmk
            generalize hD : L.map (·.2) = D at hq hsum
            have hDl : D.length = L.length := by rw [← hD]; simp
            have hDp : ∀ x ∈ D, 1 ≤ x := fun x hx => by
              rw [← hD] at hx
              obtain ⟨p, hp, rfl⟩ := List.mem_map.1 hx
              exact hpos p hp
            clear hpos hD
            have HSum : Hid _ := hsum
            have hsb : D.sum ≤ 131072 := by rw [hsum]; split <;> omega
            clear hsum
            first
              | (have hS1 : (D.sum == n) = true := by rw [HSum.out, if_pos (by omega)]; simp)
              | (have hS1 : (D.sum == (m : Int)) = true := by rw [HSum.out, if_neg (by omega)]; simp)
            first
              | rw [if_pos (by omega)] at hle
              | rw [if_neg (by omega)] at hle
            clear HSum
            have HS1 : Hid _ := hS1
            have HQ : Hid _ := hq
            clear hS1 hq
            go_wp2
            go_loop [20, 21] (fun s i => ∃ k : Nat, k ≤ L.length ∧ i = .int .i64 k ∧ s = .int .i64 (psum D k)) (fun _ i => L.length - (intOf i).toNat)
            case atStart => exact ⟨0, Nat.zero_le _, rfl, rfl⟩
            case round =>
              obtain ⟨k, hk, rfl, rfl⟩ := hrel
              by_cases hlt : k < L.length
              · have b0 := psum_bd D hDp k
                have b1 := psum_bd D hDp (k + 1)
                have hs := psum_succ D k (by omega)
                have hc := HQ.out k hlt
                have e : D.getD k 0 = D[k] := by simp [hDl, hlt]
                rw [e] at hc
                generalize D[k]'(by omega) = dk at hs hc
                have h1 : psum D k + dk ≤ 131072 := by omega
                have h2 : 0 ≤ psum D k + dk := by omega
                have HS : Hid _ := hs
                clear hs b0 b1 e
                go_wp2
                go_round
                case rel => exact ⟨k + 1, by omega, by go_num, by rw [HS.out]⟩
                case measure => simp [intOf]; omega
              · have hkL : L.length = k := by omega
                subst hkL
                have hS1 := HS1.out
                have e : psum D L.length = D.sum := by rw [← hDl]; exact psum_all D
                rw [← e] at hS1
                clear e
                go_wp2
                go_ret
                exact ⟨rfl, HF.out.trans ⟨rfl, rfl, rfl, Nat.le_refl _, fun _ _ => rfl⟩⟩
end Go.Proofs.Qxb6602950a
