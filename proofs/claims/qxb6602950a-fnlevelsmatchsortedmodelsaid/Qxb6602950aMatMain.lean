/- WORK: the law FnLevelsMatchSortedModel: the main way. -/
import Derived.Test.Qxb6602950aMatPlain
namespace Go.Proofs.Qxb6602950a
open Go.RowKit

set_option maxRecDepth 100000 in
set_option maxHeartbeats 6000000 in
theorem matF (n : Int) (x1 x2 : Option Addr) (m t c1 c2 : Nat) (f g : Nat → Int) (w : World) (hm : m ≤ 131072) (ht : t ≤ 131072) (hn : n ≤ 65536) (hn' : -65536 ≤ n) (hmn : m + t + n.toNat ≤ 131072)
    (hx1 : Own w x1 m f) (hx2 : Own w x2 t g) (hnil1 : x1 = none → m = 0 ∧ c1 = 0) (hnil2 : x2 = none → t = 0 ∧ c2 = 0) :
    Calls Try.prog 3 #[.int .i64 n, .slice x1 m c1, .slice x2 t c2] w fun e w' => e = .returned (.bool true) ∧ Below w.heap.size w w' := by
  rcases (show (0 < n ∧ m ≤ 0) ∨ (0 < n ∧ 0 < m ∧ (m : Int) < n) ∨ (0 < n ∧ 0 < m ∧ n ≤ m) ∨ (n ≤ 0 ∧ m ≤ 0) ∨ (n ≤ 0 ∧ 0 < m) from by omega) with ⟨k1, k2⟩ | ⟨k1, k2, k3⟩ | ⟨k1, k2, k3⟩ | ⟨k1, k2⟩ | ⟨k1, k2⟩
  · obtain ⟨N, HN⟩ : ∃ N, Hid (N = m + (n - m).toNat) := ⟨_, (rfl : _ = _)⟩
    have hN1 : m ≤ N := by have := HN.out; omega
    have hN2 : N ≤ 262144 := by have := HN.out; omega
    have hmk0 := run_make_row' (P := Try.prog) 22 2 (.int .i64 0) 8 Try.underlying22 info2 rfl .i64 .i64 N (by omega) (by omega)
    first
      | have hmk : ∀ w : World, (Instr.makeSlice 22 (.int .i64 ((m : Int) + (n - (m : Int)))) (.int .i64 ((m : Int) + (n - (m : Int))))).run Try.prog w = .ok (.slice (some ⟨w.heap.size, 0, none⟩) N N) (w.alloc (.cells (madeCells #[.int .i64 0] N) 2)) := fun w => by
          rw [show (m : Int) + (n - (m : Int)) = (N : Int) from by have := HN.out; omega]; exact hmk0 w
      | have hmk : ∀ w : World, (Instr.makeSlice 22 (.int .i64 (m : Int)) (.int .i64 (m : Int))).run Try.prog w = .ok (.slice (some ⟨w.heap.size, 0, none⟩) N N) (w.alloc (.cells (madeCells #[.int .i64 0] N) 2)) := fun w => by
          rw [show (m : Int) = (N : Int) from by have := HN.out; omega]; exact hmk0 w
    clear hmk0
    go_enter Try.func3, Try.ntmps3
    go_wp2_with (go_at_call 6; refine (bytes6_yes n x1 x2 m t c1 c2 _ (by omega)).mono ?_; rintro e w' ⟨rfl, rfl⟩)
    refine (clone_own2 x1 m c1 f _ (by omega) hx1 hnil1).mono ?_
    rintro e w1 ⟨y1, rfl, hb1, ho1⟩
    have C1 : Cl w1 w'.heap.size y1 m f := ho1
    clear ho1
    go_wp2_with fail
    refine (clone_own2 x2 t c2 g w1 (by omega) (hx2.below hb1) hnil2).mono ?_
    rintro e w2 ⟨y2, rfl, hb2, ho2⟩
    have C2 : Cl w2 w1.heap.size y2 t g := ho2
    clear ho2
    go_wp2_with fail
    refine (clone_own2 y2 t t g w2 (by omega) C2.own C2.nil).mono ?_
    rintro e w3 ⟨y3, rfl, hb3, ho3⟩
    have C3 : Cl w3 w2.heap.size y3 t g := ho3
    clear ho3 hx1 hx2 hnil1 hnil2
    go_wp2_with fail
    generalize hr : (Value.slice y2 0 t).ownBlock = r
    have hrk : ∀ k, r = some k → k = w1.heap.size ∧ w1.heap.size < w2.heap.size := fun k hk => C2.blk t k (by rw [hr]; exact hk)
    have C2' : Cl w3 w1.heap.size y2 t g := C2.moved (gby_of_below hb3) (by simp)
    have C1' : Cl w3 w'.heap.size y1 m f := (C1.moved (gby_of_below hb2) (by simp)).moved (gby_of_below hb3) (by simp)
    have hsz1 := hb1.size
    have hsz2 := hb2.size
    have hsz3 := hb3.size
    refine (zzlevels n y1 m m (lst f m) y2 t t (lst g t) w'.heap.size r w3 hn hn' hm C1'.src (lst_length g t) (C2'.owns hsz1 (by omega)) (by omega) hr (lev n (lst f m)) rfl).mono ?_
    rintro e w4 ⟨b1, b2, tv, rfl, r1, r2, hoT, hg4⟩
    have hsz4 := hg4.size
    have C1'' : Cl w4 w'.heap.size y1 m f := by
      rcases C1 with h | ⟨h1, h2⟩
      · exact .inl h
      · exact C1'.moved hg4 (fun _ e => by have := hrk _ e.symm; have := h2.lt; omega)
    have C3' : Cl w4 w2.heap.size y3 t g := C3.moved hg4 (fun _ e => by have := hrk _ e.symm; omega)
    have HB : Hid (Below w'.heap.size w' w4) := (hb1.trans ((hb2.mono hsz1).trans (hb3.mono (by omega)))).trans (gby_below hg4 (by omega) (fun k hk => by have := hrk k hk; omega))
    have hLl := lev_length n (lst f m) hn (by rw [lst_length]; exact hm)
    have hpos := lev_pos n (lst f m)
    have hasc := lev_asc n (lst f m)
    have hexp := lev_expand n (lst f m)
    have HX : Hid _ := And.intro hpos (And.intro hasc hexp)
    obtain ⟨a5, c5, hv5, _⟩ := ownsRow_shape hoT
    rw [hv5] at hoT ⊢
    clear hv5 hpos hasc hexp C1 C1' C2 C2' C3 hrk hr hg4 hb1 hb2 hb3
    go_wp2
    go_loopw [14] (fun i wr => ∃ k : Nat, k ≤ m ∧ i = .int .i64 k ∧ wr.rowIs w4.heap.size 2 N (fun j => .int .i64 (if j < k then allF f m j else 0)) ∧ Below w4.heap.size w4 wr) (fun i _ => m - (intOf i).toNat)
    case atStart => exact ⟨0, Nat.zero_le _, rfl, row_made w4 N _, (Below.refl _ _).alloc (Nat.le_refl _) _⟩
    case round =>
      obtain ⟨k, hk, rfl, hrow, hb⟩ := hrel
      by_cases hlt : k < m
      · omega
      · have hkm : m = k := by omega
        subst hkm
        have rr : wr.rowIs w4.heap.size 2 N (fun j => .int .i64 (allF f m j)) := hrow.congr (fun j _ => by
          by_cases e : j < m
          · rw [if_pos e]
          · rw [if_neg e]; unfold allF; rw [if_neg e])
        clear hrow
        go_wp2_with fail
        refine (merge_any (some ⟨w4.heap.size, 0, none⟩) N N (allF f m) wr (by omega) (own_row rr)).mono ?_
        rintro e w5 ⟨b7, s, rfl, r7, HS, hb5⟩
        have hg45 : w4.grownBy w5 none := gby_trans (gby_of_below hb) (gby_of_below hb5) (fun b h => by cases h)
        have hws : Hid (lst s N = srt n (lst f m)) := want_srt HN.out HS.out
        have q1 := row_gby r1 hg45
        have q2 := row_gby r2 hg45
        have hoT5 := hoT.kept hg45 (by cases (Value.slice a5 (buf n (lst f m) (lst g t)).length c5).ownBlock <;> simp)
        have C35 := C3'.moved hg45 (by simp)
        have HB5 : Hid (Below w'.heap.size w' w5) := HB.out.trans (gby_below hg45 (by omega) (fun k h => by cases h))
        clear r1 r2 hoT C3' HB hb hb5 rr HS
        go_wp2_with fail
        refine (expansion_own _ _ _ _ _ _ N (lev n (lst f m)) s w5 (by omega) hLl (own_row q1) (own_row q2) (own_row r7) HX.out.1 HX.out.2.1 (by rw [HX.out.2.2, hws.out])).mono ?_
        rintro e w6 ⟨rfl, kk, rfl⟩
        have hbuf : buf n (lst f m) (lst g t) = lst g t := if_pos ⟨by rw [lst_length]; omega, k1⟩
        rw [hbuf] at hoT5 ⊢
        have hm0 : ((m : Int) == 0) = true := by rw [beq_iff_eq]; omega
        have o5 : Own (w5.drewN kk) a5 (lst g t).length g := own_of_owns hoT5 g (by rw [lst_length])
        have o3 : Own (w5.drewN kk) y3 t g := C35.own
        rw [lst_length] at o5 ⊢
        clear hoT5 C35 q1 q2 r7 hbuf
        go_wp2_with fail
        refine (equal_own _ _ t _ _ g _ (by omega) o5 o3).mono ?_
        rintro e w7 ⟨rfl, k7, rfl⟩
        go_wp2
        go_ret
        exact ⟨rfl, HB5.out.trans ⟨rfl, rfl, rfl, Nat.le_refl _, fun _ _ => rfl⟩⟩
  · obtain ⟨N, HN⟩ : ∃ N, Hid (N = m + (n - m).toNat) := ⟨_, (rfl : _ = _)⟩
    have hN1 : m ≤ N := by have := HN.out; omega
    have hN2 : N ≤ 262144 := by have := HN.out; omega
    have hmk0 := run_make_row' (P := Try.prog) 22 2 (.int .i64 0) 8 Try.underlying22 info2 rfl .i64 .i64 N (by omega) (by omega)
    first
      | have hmk : ∀ w : World, (Instr.makeSlice 22 (.int .i64 ((m : Int) + (n - (m : Int)))) (.int .i64 ((m : Int) + (n - (m : Int))))).run Try.prog w = .ok (.slice (some ⟨w.heap.size, 0, none⟩) N N) (w.alloc (.cells (madeCells #[.int .i64 0] N) 2)) := fun w => by
          rw [show (m : Int) + (n - (m : Int)) = (N : Int) from by have := HN.out; omega]; exact hmk0 w
      | have hmk : ∀ w : World, (Instr.makeSlice 22 (.int .i64 (m : Int)) (.int .i64 (m : Int))).run Try.prog w = .ok (.slice (some ⟨w.heap.size, 0, none⟩) N N) (w.alloc (.cells (madeCells #[.int .i64 0] N) 2)) := fun w => by
          rw [show (m : Int) = (N : Int) from by have := HN.out; omega]; exact hmk0 w
    clear hmk0
    go_enter Try.func3, Try.ntmps3
    go_wp2_with (go_at_call 6; refine (bytes6_yes n x1 x2 m t c1 c2 _ (by omega)).mono ?_; rintro e w' ⟨rfl, rfl⟩)
    refine (clone_own2 x1 m c1 f _ (by omega) hx1 hnil1).mono ?_
    rintro e w1 ⟨y1, rfl, hb1, ho1⟩
    have C1 : Cl w1 w'.heap.size y1 m f := ho1
    clear ho1
    go_wp2_with fail
    refine (clone_own2 x2 t c2 g w1 (by omega) (hx2.below hb1) hnil2).mono ?_
    rintro e w2 ⟨y2, rfl, hb2, ho2⟩
    have C2 : Cl w2 w1.heap.size y2 t g := ho2
    clear ho2
    go_wp2_with fail
    refine (clone_own2 y2 t t g w2 (by omega) C2.own C2.nil).mono ?_
    rintro e w3 ⟨y3, rfl, hb3, ho3⟩
    have C3 : Cl w3 w2.heap.size y3 t g := ho3
    clear ho3 hx1 hx2 hnil1 hnil2
    go_wp2_with fail
    generalize hr : (Value.slice y2 0 t).ownBlock = r
    have hrk : ∀ k, r = some k → k = w1.heap.size ∧ w1.heap.size < w2.heap.size := fun k hk => C2.blk t k (by rw [hr]; exact hk)
    have C2' : Cl w3 w1.heap.size y2 t g := C2.moved (gby_of_below hb3) (by simp)
    have C1' : Cl w3 w'.heap.size y1 m f := (C1.moved (gby_of_below hb2) (by simp)).moved (gby_of_below hb3) (by simp)
    have hsz1 := hb1.size
    have hsz2 := hb2.size
    have hsz3 := hb3.size
    refine (zzlevels n y1 m m (lst f m) y2 t t (lst g t) w'.heap.size r w3 hn hn' hm C1'.src (lst_length g t) (C2'.owns hsz1 (by omega)) (by omega) hr (lev n (lst f m)) rfl).mono ?_
    rintro e w4 ⟨b1, b2, tv, rfl, r1, r2, hoT, hg4⟩
    have hsz4 := hg4.size
    have C1'' : Cl w4 w'.heap.size y1 m f := by
      rcases C1 with h | ⟨h1, h2⟩
      · exact .inl h
      · exact C1'.moved hg4 (fun _ e => by have := hrk _ e.symm; have := h2.lt; omega)
    have C3' : Cl w4 w2.heap.size y3 t g := C3.moved hg4 (fun _ e => by have := hrk _ e.symm; omega)
    have HB : Hid (Below w'.heap.size w' w4) := (hb1.trans ((hb2.mono hsz1).trans (hb3.mono (by omega)))).trans (gby_below hg4 (by omega) (fun k hk => by have := hrk k hk; omega))
    have hLl := lev_length n (lst f m) hn (by rw [lst_length]; exact hm)
    have hpos := lev_pos n (lst f m)
    have hasc := lev_asc n (lst f m)
    have hexp := lev_expand n (lst f m)
    have HX : Hid _ := And.intro hpos (And.intro hasc hexp)
    obtain ⟨a5, c5, hv5, _⟩ := ownsRow_shape hoT
    rw [hv5] at hoT ⊢
    clear hv5 hpos hasc hexp C1 C1' C2 C2' C3 hrk hr hg4 hb1 hb2 hb3
    go_wp2
    go_loopw [14] (fun i wr => ∃ k : Nat, k ≤ m ∧ i = .int .i64 k ∧ wr.rowIs w4.heap.size 2 N (fun j => .int .i64 (if j < k then allF f m j else 0)) ∧ Below w4.heap.size w4 wr) (fun i _ => m - (intOf i).toNat)
    case atStart => exact ⟨0, Nat.zero_le _, rfl, row_made w4 N _, (Below.refl _ _).alloc (Nat.le_refl _) _⟩
    case round =>
      obtain ⟨k, hk, rfl, hrow, hb⟩ := hrel
      by_cases hlt : k < m
      · rcases C1'' with ⟨_, h0⟩ | ⟨rfl, hr1⟩
        · omega
        have hc := (row_gby hr1 (gby_of_below hb)).cell (i := k) hlt
        have hfz := hrow.frozen k
        have hkN : (k : Int) < (N : Int) := by omega
        obtain ⟨v0, hv0⟩ : ∃ v0, wr.cell? ⟨w4.heap.size, k, none⟩ = some (.int .i64 v0) := ⟨_, hrow.cell (by omega)⟩
        have HW : Hid _ := And.intro (row_step hrow (f k) (by unfold allF; rw [if_pos hlt])) (show Below w4.heap.size w4 (wr.setCell ⟨w4.heap.size, k, none⟩ (.int .i64 (f k))) from hb.setCell (Nat.le_refl _) _)
        clear hrow hr1
        go_wp2
        go_roundw
        case rel => exact ⟨k + 1, by omega, by go_num, HW.out⟩
        case measure => simp [intOf]; omega
      · have hkm : m = k := by omega
        subst hkm
        have rr : wr.rowIs w4.heap.size 2 N (fun j => .int .i64 (allF f m j)) := hrow.congr (fun j _ => by
          by_cases e : j < m
          · rw [if_pos e]
          · rw [if_neg e]; unfold allF; rw [if_neg e])
        clear hrow
        go_wp2_with fail
        refine (merge_any (some ⟨w4.heap.size, 0, none⟩) N N (allF f m) wr (by omega) (own_row rr)).mono ?_
        rintro e w5 ⟨b7, s, rfl, r7, HS, hb5⟩
        have hg45 : w4.grownBy w5 none := gby_trans (gby_of_below hb) (gby_of_below hb5) (fun b h => by cases h)
        have hws : Hid (lst s N = srt n (lst f m)) := want_srt HN.out HS.out
        have q1 := row_gby r1 hg45
        have q2 := row_gby r2 hg45
        have hoT5 := hoT.kept hg45 (by cases (Value.slice a5 (buf n (lst f m) (lst g t)).length c5).ownBlock <;> simp)
        have C35 := C3'.moved hg45 (by simp)
        have HB5 : Hid (Below w'.heap.size w' w5) := HB.out.trans (gby_below hg45 (by omega) (fun k h => by cases h))
        clear r1 r2 hoT C3' HB hb hb5 rr HS
        go_wp2_with fail
        refine (expansion_own _ _ _ _ _ _ N (lev n (lst f m)) s w5 (by omega) hLl (own_row q1) (own_row q2) (own_row r7) HX.out.1 HX.out.2.1 (by rw [HX.out.2.2, hws.out])).mono ?_
        rintro e w6 ⟨rfl, kk, rfl⟩
        have hbuf : buf n (lst f m) (lst g t) = srt n (lst f m) := if_neg (fun h => by rw [lst_length] at h; omega)
        rw [hbuf] at hoT5 ⊢
        have hlN : (srt n (lst f m)).length = N := by rw [← hws.out, lst_length]
        have o5 : Own (w5.drewN kk) a5 (srt n (lst f m)).length s := own_of_owns hoT5 s (by rw [hlN, hws.out])
        have o7 : Own (w5.drewN kk) (some ⟨b7, 0, none⟩) N s := own_row (row_drewN r7 kk)
        rw [hlN] at o5 ⊢
        clear hoT5 C35 q1 q2 r7 hbuf hlN
        have hm0 : ((m : Int) == 0) = false := by rw [beq_eq_false_iff_ne]; omega
        go_wp2_with fail
        refine (equal_own _ _ N _ _ s _ (by omega) o5 o7).mono ?_
        rintro e w7 ⟨rfl, k7, rfl⟩
        go_wp2
        go_ret
        exact ⟨rfl, HB5.out.trans ⟨rfl, rfl, rfl, Nat.le_refl _, fun _ _ => rfl⟩⟩
  · obtain ⟨N, HN⟩ : ∃ N, Hid (N = m + (n - m).toNat) := ⟨_, (rfl : _ = _)⟩
    have hN1 : m ≤ N := by have := HN.out; omega
    have hN2 : N ≤ 262144 := by have := HN.out; omega
    have hmk0 := run_make_row' (P := Try.prog) 22 2 (.int .i64 0) 8 Try.underlying22 info2 rfl .i64 .i64 N (by omega) (by omega)
    first
      | have hmk : ∀ w : World, (Instr.makeSlice 22 (.int .i64 ((m : Int) + (n - (m : Int)))) (.int .i64 ((m : Int) + (n - (m : Int))))).run Try.prog w = .ok (.slice (some ⟨w.heap.size, 0, none⟩) N N) (w.alloc (.cells (madeCells #[.int .i64 0] N) 2)) := fun w => by
          rw [show (m : Int) + (n - (m : Int)) = (N : Int) from by have := HN.out; omega]; exact hmk0 w
      | have hmk : ∀ w : World, (Instr.makeSlice 22 (.int .i64 (m : Int)) (.int .i64 (m : Int))).run Try.prog w = .ok (.slice (some ⟨w.heap.size, 0, none⟩) N N) (w.alloc (.cells (madeCells #[.int .i64 0] N) 2)) := fun w => by
          rw [show (m : Int) = (N : Int) from by have := HN.out; omega]; exact hmk0 w
    clear hmk0
    go_enter Try.func3, Try.ntmps3
    go_wp2_with (go_at_call 6; refine (bytes6_yes n x1 x2 m t c1 c2 _ (by omega)).mono ?_; rintro e w' ⟨rfl, rfl⟩)
    refine (clone_own2 x1 m c1 f _ (by omega) hx1 hnil1).mono ?_
    rintro e w1 ⟨y1, rfl, hb1, ho1⟩
    have C1 : Cl w1 w'.heap.size y1 m f := ho1
    clear ho1
    go_wp2_with fail
    refine (clone_own2 x2 t c2 g w1 (by omega) (hx2.below hb1) hnil2).mono ?_
    rintro e w2 ⟨y2, rfl, hb2, ho2⟩
    have C2 : Cl w2 w1.heap.size y2 t g := ho2
    clear ho2
    go_wp2_with fail
    refine (clone_own2 y2 t t g w2 (by omega) C2.own C2.nil).mono ?_
    rintro e w3 ⟨y3, rfl, hb3, ho3⟩
    have C3 : Cl w3 w2.heap.size y3 t g := ho3
    clear ho3 hx1 hx2 hnil1 hnil2
    go_wp2_with fail
    generalize hr : (Value.slice y2 0 t).ownBlock = r
    have hrk : ∀ k, r = some k → k = w1.heap.size ∧ w1.heap.size < w2.heap.size := fun k hk => C2.blk t k (by rw [hr]; exact hk)
    have C2' : Cl w3 w1.heap.size y2 t g := C2.moved (gby_of_below hb3) (by simp)
    have C1' : Cl w3 w'.heap.size y1 m f := (C1.moved (gby_of_below hb2) (by simp)).moved (gby_of_below hb3) (by simp)
    have hsz1 := hb1.size
    have hsz2 := hb2.size
    have hsz3 := hb3.size
    refine (zzlevels n y1 m m (lst f m) y2 t t (lst g t) w'.heap.size r w3 hn hn' hm C1'.src (lst_length g t) (C2'.owns hsz1 (by omega)) (by omega) hr (lev n (lst f m)) rfl).mono ?_
    rintro e w4 ⟨b1, b2, tv, rfl, r1, r2, hoT, hg4⟩
    have hsz4 := hg4.size
    have C1'' : Cl w4 w'.heap.size y1 m f := by
      rcases C1 with h | ⟨h1, h2⟩
      · exact .inl h
      · exact C1'.moved hg4 (fun _ e => by have := hrk _ e.symm; have := h2.lt; omega)
    have C3' : Cl w4 w2.heap.size y3 t g := C3.moved hg4 (fun _ e => by have := hrk _ e.symm; omega)
    have HB : Hid (Below w'.heap.size w' w4) := (hb1.trans ((hb2.mono hsz1).trans (hb3.mono (by omega)))).trans (gby_below hg4 (by omega) (fun k hk => by have := hrk k hk; omega))
    have hLl := lev_length n (lst f m) hn (by rw [lst_length]; exact hm)
    have hpos := lev_pos n (lst f m)
    have hasc := lev_asc n (lst f m)
    have hexp := lev_expand n (lst f m)
    have HX : Hid _ := And.intro hpos (And.intro hasc hexp)
    obtain ⟨a5, c5, hv5, _⟩ := ownsRow_shape hoT
    rw [hv5] at hoT ⊢
    clear hv5 hpos hasc hexp C1 C1' C2 C2' C3 hrk hr hg4 hb1 hb2 hb3
    go_wp2
    go_loopw [14] (fun i wr => ∃ k : Nat, k ≤ m ∧ i = .int .i64 k ∧ wr.rowIs w4.heap.size 2 N (fun j => .int .i64 (if j < k then allF f m j else 0)) ∧ Below w4.heap.size w4 wr) (fun i _ => m - (intOf i).toNat)
    case atStart => exact ⟨0, Nat.zero_le _, rfl, row_made w4 N _, (Below.refl _ _).alloc (Nat.le_refl _) _⟩
    case round =>
      obtain ⟨k, hk, rfl, hrow, hb⟩ := hrel
      by_cases hlt : k < m
      · rcases C1'' with ⟨_, h0⟩ | ⟨rfl, hr1⟩
        · omega
        have hc := (row_gby hr1 (gby_of_below hb)).cell (i := k) hlt
        have hfz := hrow.frozen k
        have hkN : (k : Int) < (N : Int) := by omega
        obtain ⟨v0, hv0⟩ : ∃ v0, wr.cell? ⟨w4.heap.size, k, none⟩ = some (.int .i64 v0) := ⟨_, hrow.cell (by omega)⟩
        have HW : Hid _ := And.intro (row_step hrow (f k) (by unfold allF; rw [if_pos hlt])) (show Below w4.heap.size w4 (wr.setCell ⟨w4.heap.size, k, none⟩ (.int .i64 (f k))) from hb.setCell (Nat.le_refl _) _)
        clear hrow hr1
        go_wp2
        go_roundw
        case rel => exact ⟨k + 1, by omega, by go_num, HW.out⟩
        case measure => simp [intOf]; omega
      · have hkm : m = k := by omega
        subst hkm
        have rr : wr.rowIs w4.heap.size 2 N (fun j => .int .i64 (allF f m j)) := hrow.congr (fun j _ => by
          by_cases e : j < m
          · rw [if_pos e]
          · rw [if_neg e]; unfold allF; rw [if_neg e])
        clear hrow
        go_wp2_with fail
        refine (merge_any (some ⟨w4.heap.size, 0, none⟩) N N (allF f m) wr (by omega) (own_row rr)).mono ?_
        rintro e w5 ⟨b7, s, rfl, r7, HS, hb5⟩
        have hg45 : w4.grownBy w5 none := gby_trans (gby_of_below hb) (gby_of_below hb5) (fun b h => by cases h)
        have hws : Hid (lst s N = srt n (lst f m)) := want_srt HN.out HS.out
        have q1 := row_gby r1 hg45
        have q2 := row_gby r2 hg45
        have hoT5 := hoT.kept hg45 (by cases (Value.slice a5 (buf n (lst f m) (lst g t)).length c5).ownBlock <;> simp)
        have C35 := C3'.moved hg45 (by simp)
        have HB5 : Hid (Below w'.heap.size w' w5) := HB.out.trans (gby_below hg45 (by omega) (fun k h => by cases h))
        clear r1 r2 hoT C3' HB hb hb5 rr HS
        go_wp2_with fail
        refine (expansion_own _ _ _ _ _ _ N (lev n (lst f m)) s w5 (by omega) hLl (own_row q1) (own_row q2) (own_row r7) HX.out.1 HX.out.2.1 (by rw [HX.out.2.2, hws.out])).mono ?_
        rintro e w6 ⟨rfl, kk, rfl⟩
        have hbuf : buf n (lst f m) (lst g t) = srt n (lst f m) := if_neg (fun h => by rw [lst_length] at h; omega)
        rw [hbuf] at hoT5 ⊢
        have hlN : (srt n (lst f m)).length = N := by rw [← hws.out, lst_length]
        have o5 : Own (w5.drewN kk) a5 (srt n (lst f m)).length s := own_of_owns hoT5 s (by rw [hlN, hws.out])
        have o7 : Own (w5.drewN kk) (some ⟨b7, 0, none⟩) N s := own_row (row_drewN r7 kk)
        rw [hlN] at o5 ⊢
        clear hoT5 C35 q1 q2 r7 hbuf hlN
        have hm0 : ((m : Int) == 0) = false := by rw [beq_eq_false_iff_ne]; omega
        go_wp2_with fail
        refine (equal_own _ _ N _ _ s _ (by omega) o5 o7).mono ?_
        rintro e w7 ⟨rfl, k7, rfl⟩
        go_wp2
        go_ret
        exact ⟨rfl, HB5.out.trans ⟨rfl, rfl, rfl, Nat.le_refl _, fun _ _ => rfl⟩⟩
  · obtain ⟨N, HN⟩ : ∃ N, Hid (N = m + (n - m).toNat) := ⟨_, (rfl : _ = _)⟩
    have hN1 : m ≤ N := by have := HN.out; omega
    have hN2 : N ≤ 262144 := by have := HN.out; omega
    have hmk0 := run_make_row' (P := Try.prog) 22 2 (.int .i64 0) 8 Try.underlying22 info2 rfl .i64 .i64 N (by omega) (by omega)
    first
      | have hmk : ∀ w : World, (Instr.makeSlice 22 (.int .i64 ((m : Int) + (n - (m : Int)))) (.int .i64 ((m : Int) + (n - (m : Int))))).run Try.prog w = .ok (.slice (some ⟨w.heap.size, 0, none⟩) N N) (w.alloc (.cells (madeCells #[.int .i64 0] N) 2)) := fun w => by
          rw [show (m : Int) + (n - (m : Int)) = (N : Int) from by have := HN.out; omega]; exact hmk0 w
      | have hmk : ∀ w : World, (Instr.makeSlice 22 (.int .i64 (m : Int)) (.int .i64 (m : Int))).run Try.prog w = .ok (.slice (some ⟨w.heap.size, 0, none⟩) N N) (w.alloc (.cells (madeCells #[.int .i64 0] N) 2)) := fun w => by
          rw [show (m : Int) = (N : Int) from by have := HN.out; omega]; exact hmk0 w
    clear hmk0
    go_enter Try.func3, Try.ntmps3
    go_wp2_with (go_at_call 6; refine (bytes6_yes n x1 x2 m t c1 c2 _ (by omega)).mono ?_; rintro e w' ⟨rfl, rfl⟩)
    refine (clone_own2 x1 m c1 f _ (by omega) hx1 hnil1).mono ?_
    rintro e w1 ⟨y1, rfl, hb1, ho1⟩
    have C1 : Cl w1 w'.heap.size y1 m f := ho1
    clear ho1
    go_wp2_with fail
    refine (clone_own2 x2 t c2 g w1 (by omega) (hx2.below hb1) hnil2).mono ?_
    rintro e w2 ⟨y2, rfl, hb2, ho2⟩
    have C2 : Cl w2 w1.heap.size y2 t g := ho2
    clear ho2
    go_wp2_with fail
    refine (clone_own2 y2 t t g w2 (by omega) C2.own C2.nil).mono ?_
    rintro e w3 ⟨y3, rfl, hb3, ho3⟩
    have C3 : Cl w3 w2.heap.size y3 t g := ho3
    clear ho3 hx1 hx2 hnil1 hnil2
    go_wp2_with fail
    generalize hr : (Value.slice y2 0 t).ownBlock = r
    have hrk : ∀ k, r = some k → k = w1.heap.size ∧ w1.heap.size < w2.heap.size := fun k hk => C2.blk t k (by rw [hr]; exact hk)
    have C2' : Cl w3 w1.heap.size y2 t g := C2.moved (gby_of_below hb3) (by simp)
    have C1' : Cl w3 w'.heap.size y1 m f := (C1.moved (gby_of_below hb2) (by simp)).moved (gby_of_below hb3) (by simp)
    have hsz1 := hb1.size
    have hsz2 := hb2.size
    have hsz3 := hb3.size
    refine (zzlevels n y1 m m (lst f m) y2 t t (lst g t) w'.heap.size r w3 hn hn' hm C1'.src (lst_length g t) (C2'.owns hsz1 (by omega)) (by omega) hr (lev n (lst f m)) rfl).mono ?_
    rintro e w4 ⟨b1, b2, tv, rfl, r1, r2, hoT, hg4⟩
    have hsz4 := hg4.size
    have C1'' : Cl w4 w'.heap.size y1 m f := by
      rcases C1 with h | ⟨h1, h2⟩
      · exact .inl h
      · exact C1'.moved hg4 (fun _ e => by have := hrk _ e.symm; have := h2.lt; omega)
    have C3' : Cl w4 w2.heap.size y3 t g := C3.moved hg4 (fun _ e => by have := hrk _ e.symm; omega)
    have HB : Hid (Below w'.heap.size w' w4) := (hb1.trans ((hb2.mono hsz1).trans (hb3.mono (by omega)))).trans (gby_below hg4 (by omega) (fun k hk => by have := hrk k hk; omega))
    have hLl := lev_length n (lst f m) hn (by rw [lst_length]; exact hm)
    have hpos := lev_pos n (lst f m)
    have hasc := lev_asc n (lst f m)
    have hexp := lev_expand n (lst f m)
    have HX : Hid _ := And.intro hpos (And.intro hasc hexp)
    obtain ⟨a5, c5, hv5, _⟩ := ownsRow_shape hoT
    rw [hv5] at hoT ⊢
    clear hv5 hpos hasc hexp C1 C1' C2 C2' C3 hrk hr hg4 hb1 hb2 hb3
    go_wp2
    go_loopw [14] (fun i wr => ∃ k : Nat, k ≤ m ∧ i = .int .i64 k ∧ wr.rowIs w4.heap.size 2 N (fun j => .int .i64 (if j < k then allF f m j else 0)) ∧ Below w4.heap.size w4 wr) (fun i _ => m - (intOf i).toNat)
    case atStart => exact ⟨0, Nat.zero_le _, rfl, row_made w4 N _, (Below.refl _ _).alloc (Nat.le_refl _) _⟩
    case round =>
      obtain ⟨k, hk, rfl, hrow, hb⟩ := hrel
      by_cases hlt : k < m
      · omega
      · have hkm : m = k := by omega
        subst hkm
        have rr : wr.rowIs w4.heap.size 2 N (fun j => .int .i64 (allF f m j)) := hrow.congr (fun j _ => by
          by_cases e : j < m
          · rw [if_pos e]
          · rw [if_neg e]; unfold allF; rw [if_neg e])
        clear hrow
        go_wp2_with fail
        refine (merge_any (some ⟨w4.heap.size, 0, none⟩) N N (allF f m) wr (by omega) (own_row rr)).mono ?_
        rintro e w5 ⟨b7, s, rfl, r7, HS, hb5⟩
        have hg45 : w4.grownBy w5 none := gby_trans (gby_of_below hb) (gby_of_below hb5) (fun b h => by cases h)
        have hws : Hid (lst s N = srt n (lst f m)) := want_srt HN.out HS.out
        have q1 := row_gby r1 hg45
        have q2 := row_gby r2 hg45
        have hoT5 := hoT.kept hg45 (by cases (Value.slice a5 (buf n (lst f m) (lst g t)).length c5).ownBlock <;> simp)
        have C35 := C3'.moved hg45 (by simp)
        have HB5 : Hid (Below w'.heap.size w' w5) := HB.out.trans (gby_below hg45 (by omega) (fun k h => by cases h))
        clear r1 r2 hoT C3' HB hb hb5 rr HS
        go_wp2_with fail
        refine (expansion_own _ _ _ _ _ _ N (lev n (lst f m)) s w5 (by omega) hLl (own_row q1) (own_row q2) (own_row r7) HX.out.1 HX.out.2.1 (by rw [HX.out.2.2, hws.out])).mono ?_
        rintro e w6 ⟨rfl, kk, rfl⟩
        have hbuf : buf n (lst f m) (lst g t) = srt n (lst f m) := if_neg (fun h => by rw [lst_length] at h; omega)
        rw [hbuf] at hoT5 ⊢
        have hlN : (srt n (lst f m)).length = N := by rw [← hws.out, lst_length]
        have o5 : Own (w5.drewN kk) a5 (srt n (lst f m)).length s := own_of_owns hoT5 s (by rw [hlN, hws.out])
        have o7 : Own (w5.drewN kk) (some ⟨b7, 0, none⟩) N s := own_row (row_drewN r7 kk)
        rw [hlN] at o5 ⊢
        clear hoT5 C35 q1 q2 r7 hbuf hlN
        have hm0 : ((m : Int) == 0) = true := by rw [beq_iff_eq]; omega
        go_wp2_with fail
        refine (equal_own _ _ N _ _ s _ (by omega) o5 o7).mono ?_
        rintro e w7 ⟨rfl, k7, rfl⟩
        go_wp2
        go_ret
        exact ⟨rfl, HB5.out.trans ⟨rfl, rfl, rfl, Nat.le_refl _, fun _ _ => rfl⟩⟩
  · obtain ⟨N, HN⟩ : ∃ N, Hid (N = m + (n - m).toNat) := ⟨_, (rfl : _ = _)⟩
    have hN1 : m ≤ N := by have := HN.out; omega
    have hN2 : N ≤ 262144 := by have := HN.out; omega
    have hmk0 := run_make_row' (P := Try.prog) 22 2 (.int .i64 0) 8 Try.underlying22 info2 rfl .i64 .i64 N (by omega) (by omega)
    first
      | have hmk : ∀ w : World, (Instr.makeSlice 22 (.int .i64 ((m : Int) + (n - (m : Int)))) (.int .i64 ((m : Int) + (n - (m : Int))))).run Try.prog w = .ok (.slice (some ⟨w.heap.size, 0, none⟩) N N) (w.alloc (.cells (madeCells #[.int .i64 0] N) 2)) := fun w => by
          rw [show (m : Int) + (n - (m : Int)) = (N : Int) from by have := HN.out; omega]; exact hmk0 w
      | have hmk : ∀ w : World, (Instr.makeSlice 22 (.int .i64 (m : Int)) (.int .i64 (m : Int))).run Try.prog w = .ok (.slice (some ⟨w.heap.size, 0, none⟩) N N) (w.alloc (.cells (madeCells #[.int .i64 0] N) 2)) := fun w => by
          rw [show (m : Int) = (N : Int) from by have := HN.out; omega]; exact hmk0 w
    clear hmk0
    go_enter Try.func3, Try.ntmps3
    go_wp2_with (go_at_call 6; refine (bytes6_yes n x1 x2 m t c1 c2 _ (by omega)).mono ?_; rintro e w' ⟨rfl, rfl⟩)
    refine (clone_own2 x1 m c1 f _ (by omega) hx1 hnil1).mono ?_
    rintro e w1 ⟨y1, rfl, hb1, ho1⟩
    have C1 : Cl w1 w'.heap.size y1 m f := ho1
    clear ho1
    go_wp2_with fail
    refine (clone_own2 x2 t c2 g w1 (by omega) (hx2.below hb1) hnil2).mono ?_
    rintro e w2 ⟨y2, rfl, hb2, ho2⟩
    have C2 : Cl w2 w1.heap.size y2 t g := ho2
    clear ho2
    go_wp2_with fail
    refine (clone_own2 y2 t t g w2 (by omega) C2.own C2.nil).mono ?_
    rintro e w3 ⟨y3, rfl, hb3, ho3⟩
    have C3 : Cl w3 w2.heap.size y3 t g := ho3
    clear ho3 hx1 hx2 hnil1 hnil2
    go_wp2_with fail
    generalize hr : (Value.slice y2 0 t).ownBlock = r
    have hrk : ∀ k, r = some k → k = w1.heap.size ∧ w1.heap.size < w2.heap.size := fun k hk => C2.blk t k (by rw [hr]; exact hk)
    have C2' : Cl w3 w1.heap.size y2 t g := C2.moved (gby_of_below hb3) (by simp)
    have C1' : Cl w3 w'.heap.size y1 m f := (C1.moved (gby_of_below hb2) (by simp)).moved (gby_of_below hb3) (by simp)
    have hsz1 := hb1.size
    have hsz2 := hb2.size
    have hsz3 := hb3.size
    refine (zzlevels n y1 m m (lst f m) y2 t t (lst g t) w'.heap.size r w3 hn hn' hm C1'.src (lst_length g t) (C2'.owns hsz1 (by omega)) (by omega) hr (lev n (lst f m)) rfl).mono ?_
    rintro e w4 ⟨b1, b2, tv, rfl, r1, r2, hoT, hg4⟩
    have hsz4 := hg4.size
    have C1'' : Cl w4 w'.heap.size y1 m f := by
      rcases C1 with h | ⟨h1, h2⟩
      · exact .inl h
      · exact C1'.moved hg4 (fun _ e => by have := hrk _ e.symm; have := h2.lt; omega)
    have C3' : Cl w4 w2.heap.size y3 t g := C3.moved hg4 (fun _ e => by have := hrk _ e.symm; omega)
    have HB : Hid (Below w'.heap.size w' w4) := (hb1.trans ((hb2.mono hsz1).trans (hb3.mono (by omega)))).trans (gby_below hg4 (by omega) (fun k hk => by have := hrk k hk; omega))
    have hLl := lev_length n (lst f m) hn (by rw [lst_length]; exact hm)
    have hpos := lev_pos n (lst f m)
    have hasc := lev_asc n (lst f m)
    have hexp := lev_expand n (lst f m)
    have HX : Hid _ := And.intro hpos (And.intro hasc hexp)
    obtain ⟨a5, c5, hv5, _⟩ := ownsRow_shape hoT
    rw [hv5] at hoT ⊢
    clear hv5 hpos hasc hexp C1 C1' C2 C2' C3 hrk hr hg4 hb1 hb2 hb3
    go_wp2
    go_loopw [14] (fun i wr => ∃ k : Nat, k ≤ m ∧ i = .int .i64 k ∧ wr.rowIs w4.heap.size 2 N (fun j => .int .i64 (if j < k then allF f m j else 0)) ∧ Below w4.heap.size w4 wr) (fun i _ => m - (intOf i).toNat)
    case atStart => exact ⟨0, Nat.zero_le _, rfl, row_made w4 N _, (Below.refl _ _).alloc (Nat.le_refl _) _⟩
    case round =>
      obtain ⟨k, hk, rfl, hrow, hb⟩ := hrel
      by_cases hlt : k < m
      · rcases C1'' with ⟨_, h0⟩ | ⟨rfl, hr1⟩
        · omega
        have hc := (row_gby hr1 (gby_of_below hb)).cell (i := k) hlt
        have hfz := hrow.frozen k
        have hkN : (k : Int) < (N : Int) := by omega
        obtain ⟨v0, hv0⟩ : ∃ v0, wr.cell? ⟨w4.heap.size, k, none⟩ = some (.int .i64 v0) := ⟨_, hrow.cell (by omega)⟩
        have HW : Hid _ := And.intro (row_step hrow (f k) (by unfold allF; rw [if_pos hlt])) (show Below w4.heap.size w4 (wr.setCell ⟨w4.heap.size, k, none⟩ (.int .i64 (f k))) from hb.setCell (Nat.le_refl _) _)
        clear hrow hr1
        go_wp2
        go_roundw
        case rel => exact ⟨k + 1, by omega, by go_num, HW.out⟩
        case measure => simp [intOf]; omega
      · have hkm : m = k := by omega
        subst hkm
        have rr : wr.rowIs w4.heap.size 2 N (fun j => .int .i64 (allF f m j)) := hrow.congr (fun j _ => by
          by_cases e : j < m
          · rw [if_pos e]
          · rw [if_neg e]; unfold allF; rw [if_neg e])
        clear hrow
        go_wp2_with fail
        refine (merge_any (some ⟨w4.heap.size, 0, none⟩) N N (allF f m) wr (by omega) (own_row rr)).mono ?_
        rintro e w5 ⟨b7, s, rfl, r7, HS, hb5⟩
        have hg45 : w4.grownBy w5 none := gby_trans (gby_of_below hb) (gby_of_below hb5) (fun b h => by cases h)
        have hws : Hid (lst s N = srt n (lst f m)) := want_srt HN.out HS.out
        have q1 := row_gby r1 hg45
        have q2 := row_gby r2 hg45
        have hoT5 := hoT.kept hg45 (by cases (Value.slice a5 (buf n (lst f m) (lst g t)).length c5).ownBlock <;> simp)
        have C35 := C3'.moved hg45 (by simp)
        have HB5 : Hid (Below w'.heap.size w' w5) := HB.out.trans (gby_below hg45 (by omega) (fun k h => by cases h))
        clear r1 r2 hoT C3' HB hb hb5 rr HS
        go_wp2_with fail
        refine (expansion_own _ _ _ _ _ _ N (lev n (lst f m)) s w5 (by omega) hLl (own_row q1) (own_row q2) (own_row r7) HX.out.1 HX.out.2.1 (by rw [HX.out.2.2, hws.out])).mono ?_
        rintro e w6 ⟨rfl, kk, rfl⟩
        have hbuf : buf n (lst f m) (lst g t) = srt n (lst f m) := if_neg (fun h => by rw [lst_length] at h; omega)
        rw [hbuf] at hoT5 ⊢
        have hlN : (srt n (lst f m)).length = N := by rw [← hws.out, lst_length]
        have o5 : Own (w5.drewN kk) a5 (srt n (lst f m)).length s := own_of_owns hoT5 s (by rw [hlN, hws.out])
        have o7 : Own (w5.drewN kk) (some ⟨b7, 0, none⟩) N s := own_row (row_drewN r7 kk)
        rw [hlN] at o5 ⊢
        clear hoT5 C35 q1 q2 r7 hbuf hlN
        have hm0 : ((m : Int) == 0) = false := by rw [beq_eq_false_iff_ne]; omega
        go_wp2_with fail
        refine (equal_own _ _ N _ _ s _ (by omega) o5 o7).mono ?_
        rintro e w7 ⟨rfl, k7, rfl⟩
        go_wp2
        go_ret
        exact ⟨rfl, HB5.out.trans ⟨rfl, rfl, rfl, Nat.le_refl _, fun _ _ => rfl⟩⟩
end Go.Proofs.Qxb6602950a
