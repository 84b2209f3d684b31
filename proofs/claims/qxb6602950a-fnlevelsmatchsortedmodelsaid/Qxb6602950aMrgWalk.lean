/- WORK: zzMergeSort. -/
import Derived.Test.Qxb6602950aMrgLaw
import Derived.Test.Qxb6602950aIgnMain
namespace Go.Proofs.Qxb6602950a
open Go.RowKit

theorem below_drewN' {B : Nat} {w wr : World} {a : Addr} {v : Value} {q : Nat} (h : Below B w (wr.setCell a v)) : Below B w ((wr.drewN q).setCell a v) := ⟨h.os, h.tape, h.output, h.size, h.block⟩
theorem upd_row {wr : World} {b n : Nat} {d : Nat → Int} (h : wr.rowIs b 2 n (fun q => .int .i64 (d q))) (k : Nat) (v : Int) : (wr.setCell ⟨b, k, none⟩ (.int .i64 v)).rowIs b 2 n (fun q => .int .i64 (updI d k v q)) :=
  (h.set k (.int .i64 v)).congr (fun j _ => by unfold updI; by_cases e : j = k <;> simp [e])

set_option maxRecDepth 100000 in
set_option maxHeartbeats 4000000 in
theorem merge_any (a : Option Addr) (n c : Nat) (f : Nat → Int) (w : World) (hn : n ≤ 1048576) (ho : Own w a n f) :
    Calls Try.prog 9 #[.slice a n c] w fun e w' => ∃ b s, e = .returned (.slice (some ⟨b, 0, none⟩) n n) ∧ w'.rowIs b 2 n (fun i => .int .i64 (s i)) ∧ Hid ((seg s 0 n).Perm (seg f 0 n) ∧ (seg s 0 n).Pairwise (· ≤ ·)) ∧ Below w.heap.size w w' := by
  have hmk := run_make_row' (P := Try.prog) 22 2 (.int .i64 0) 8 Try.underlying22 info2 rfl .i64 .i64 n (by omega) (by omega)
  go_enter Try.func9, Try.ntmps9
  go_wp2
  go_loopw [5] (fun i wr => ∃ k : Nat, k ≤ n ∧ i = .int .i64 k ∧ wr.rowIs w.heap.size 2 n (fun j => .int .i64 (if j < k then f j else 0)) ∧ Below w.heap.size w wr ∧ wr.heap.size = w.heap.size + 1) (fun i _ => n - (intOf i).toNat)
  case atStart => exact ⟨0, Nat.zero_le _, rfl, row_made w n f, (Below.refl _ _).alloc (Nat.le_refl _) _, by simp⟩
  case round =>
    obtain ⟨k, hk, rfl, hrow, hb, hsz⟩ := hrel
    by_cases hlt : k < n
    · rcases ho with ho | ⟨x, rfl, hx, hc⟩
      · omega
      have hcell : wr.cell? (x.add k) = some (.int .i64 (f k)) := (hb.cell (p := x.add k) (by rw [add_block]; exact hx)).trans (hc k hlt)
      have hfz := hrow.frozen k
      obtain ⟨v0, hv0⟩ : ∃ v0, wr.cell? ⟨w.heap.size, k, none⟩ = some (.int .i64 v0) := ⟨_, hrow.cell hlt⟩
      have HW : Hid _ := And.intro (row_step hrow (f k) rfl) (And.intro (show Below w.heap.size w (wr.setCell ⟨w.heap.size, k, none⟩ (.int .i64 (f k))) from hb.setCell (Nat.le_refl _) _) (show (wr.setCell ⟨w.heap.size, k, none⟩ (.int .i64 (f k))).heap.size = w.heap.size + 1 by simpa using hsz))
      clear hrow hsz
      go_wp2
      go_roundw
      case rel => exact ⟨k + 1, by omega, by go_num, HW.out⟩
      case measure => simp [intOf]; omega
    · have hkm : n = k := by omega
      subst hkm
      have rr := row_done hrow
      have rr2 := rr.alloc (.cells (madeCells #[.int .i64 0] n) 2)
      have rd := row_made wr n (fun _ => 0)
      have HB : Hid (Below w.heap.size w (wr.alloc (.cells (madeCells #[.int .i64 0] n) 2))) := hb.alloc (by omega) _
      have hszI : w.heap.size + 1 ≤ wr.heap.size := by omega
      have hszI' : wr.heap.size ≤ w.heap.size + 1 := by omega
      clear hrow rr hb ho hsz
      go_wp2
      go_loopw [4, 6, 7] (fun sv dv wv wr => ∃ (W bs bd : Nat) (s d : Nat → Int), sv = .slice (some ⟨bs, 0, none⟩) n n ∧ dv = .slice (some ⟨bd, 0, none⟩) n n ∧ wv = .int .i64 W ∧ 1 ≤ W ∧ W ≤ 2097152 ∧ bs ≠ bd ∧ w.heap.size ≤ bs ∧ w.heap.size ≤ bd ∧ wr.rowIs bs 2 n (fun q => .int .i64 (s q)) ∧ wr.rowIs bd 2 n (fun q => .int .i64 (d q)) ∧ Hid ((seg s 0 n).Perm (seg f 0 n) ∧ Adj W s n) ∧ Below w.heap.size w wr) (fun _ _ wv _ => n - (intOf wv).toNat)
      case atStart => exact ⟨1, w.heap.size, wr.heap.size, f, fun _ => 0, rfl, rfl, rfl, Nat.le_refl _, by omega, by omega, Nat.le_refl _, by omega, rr2, rd.congr (fun _ _ => by simp), ⟨List.Perm.refl _, adj_one f n⟩, HB.out⟩
      case round =>
        clear rr2 rd HB hszI hszI' hmk
        obtain ⟨W, bs, bd, s, d, rfl, rfl, rfl, hW1, hW2, hne, hbs, hbd, hs1, hd1, HP, hb1⟩ := hrel
        by_cases hWn : W < n
        · go_wp2
          go_loopw [8] (fun lv wx => ∃ (q lo : Nat) (d2 : Nat → Int), lv = .int .i64 lo ∧ lo ≤ n + 2 * W ∧ Hid (lo = q * (2 * W)) ∧ wx.rowIs bs 2 n (fun q => .int .i64 (s q)) ∧ wx.rowIs bd 2 n (fun q => .int .i64 (d2 q)) ∧ Below w.heap.size w wx ∧ Hid ((seg d2 0 (min lo n)).Perm (seg s 0 (min lo n)) ∧ Adj (2 * W) d2 (min lo n))) (fun lv _ => n - (intOf lv).toNat)
          case atStart => exact ⟨0, 0, d, rfl, by omega, (by simp : 0 = 0 * (2 * W)), hs1, hd1, hb1, ⟨by rw [Nat.zero_min]; exact List.Perm.refl _, fun i hi => by omega⟩⟩
          case round =>
            obtain ⟨q, lo, d2, rfl, hlo, HQ, hs2, hd2, hb2, HD⟩ := hrel
            by_cases hln : lo < n
            · by_cases hc1 : lo + W ≤ n
              · by_cases hc2 : lo + 2 * W ≤ n
                · skip

                  obtain ⟨T, hT0⟩ : ∃ T, Hid (seg d2 0 lo ++ (seg s lo (lo + W)).merge (seg s (lo + W) (lo + 2 * W)) leI = T) := ⟨_, (rfl : (seg d2 0 lo ++ (seg s lo (lo + W)).merge (seg s (lo + W) (lo + 2 * W)) leI) = _)⟩
                  go_wp2
                  go_loopw [11, 12, 13] (fun iv jv kv wx => ∃ (i j k : Nat) (d3 : Nat → Int), iv = .int .i64 i ∧ jv = .int .i64 j ∧ kv = .int .i64 k ∧ lo ≤ i ∧ i ≤ lo + W ∧ lo + W ≤ j ∧ j ≤ lo + 2 * W ∧ k + (lo + W) = i + j ∧ wx.rowIs bs 2 n (fun q => .int .i64 (s q)) ∧ wx.rowIs bd 2 n (fun q => .int .i64 (d3 q)) ∧ Below w.heap.size w wx ∧ Hid (seg d3 0 k ++ (seg s i (lo + W)).merge (seg s j (lo + 2 * W)) leI = T)) (fun _ _ kv _ => lo + 2 * W - (intOf kv).toNat)
                  case atStart => exact ⟨lo, lo + W, lo, d2, by go_num, by go_num, by go_num, Nat.le_refl _, by omega, Nat.le_refl _, by omega, by omega, hs2, hd2, hb2, hT0⟩
                  case round =>
                    obtain ⟨i, j, k, d3, rfl, rfl, rfl, hi1, hi2, hj1, hj2, hkij, hs3, hd3, hb3, HT⟩ := hrel
                    have HK : Hid (k + (lo + W) = i + j) := hkij
                    have hkl : k + (lo + W) ≤ i + j := by omega
                    have hkl' : i + j ≤ k + (lo + W) := by omega
                    clear hkij
                    by_cases hkh : k < lo + 2 * W
                    · have hkn : k < n := by omega
                      have hfz := hd3.frozen k
                      obtain ⟨v0, hv0⟩ : ∃ v0, wr.cell? ⟨bd, k, none⟩ = some (.int .i64 v0) := ⟨_, hd3.cell hkn⟩
                      by_cases c1 : i < lo + W
                      · have ci := hs3.cell (i := i) (by omega)
                        have hin : (i : Int) < (n : Int) := by omega
                        have HL : Hid _ := And.intro (hs3.setOther (a := ⟨bd, k, none⟩) hne (.int .i64 (s i))) (And.intro (upd_row hd3 k (s i)) (show Below w.heap.size w (wr.setCell ⟨bd, k, none⟩ (.int .i64 (s i))) from hb3.setCell hbd _))
                        by_cases c2 : lo + 2 * W ≤ j
                        · have c2' : decide ((j : Int) < (lo : Int) + 2 * (W : Int)) = false := decide_eq_false (by omega)
                          have c2I : (lo : Int) + 2 * (W : Int) ≤ (j : Int) := by omega
                          have c1I : (i : Int) < (lo : Int) + (W : Int) := by omega
                          have R : Hid (seg (updI d3 k (s i)) 0 (k + 1) ++ (seg s (i + 1) (lo + W)).merge (seg s j (lo + 2 * W)) leI = T) := by
                            show _ = _
                            rw [seg_upd, ← HT.out, step_left c1 (.inl c2)]; simp
                          clear hs3 hd3 hb3
                          go_wp2
                          go_quiet (fail)
                          go_wp2
                          go_roundw
                          case rel =>
                            have hk' := HK.out
                            first | exact ⟨i + 1, j, k + 1, updI d3 k (s i), by go_num, rfl, by go_num, by omega, by omega, by omega, by omega, by omega, HL.out.1.of_block rfl, HL.out.2.1.of_block rfl, below_drewN' HL.out.2.2, R⟩ | ((repeat apply Exists.intro); exact ⟨⟨i + 1, j, k + 1, updI d3 k (s i), by go_num, rfl, by go_num, by omega, by omega, by omega, by omega, by omega, HL.out.1.of_block rfl, HL.out.2.1.of_block rfl, below_drewN' HL.out.2.2, R⟩, rfl⟩)
                          case measure => simp [intOf]; omega
                        · have cj := hs3.cell (i := j) (by omega)
                          have hjn : (j : Int) < (n : Int) := by omega
                          have c2I : (j : Int) < (lo : Int) + 2 * (W : Int) := by omega
                          have c2' : decide ((lo : Int) + 2 * (W : Int) ≤ (j : Int)) = false := decide_eq_false (by omega)
                          have c1I : (i : Int) < (lo : Int) + (W : Int) := by omega
                          by_cases c3 : s i ≤ s j
                          · have R : Hid (seg (updI d3 k (s i)) 0 (k + 1) ++ (seg s (i + 1) (lo + W)).merge (seg s j (lo + 2 * W)) leI = T) := by
                              show _ = _
                              rw [seg_upd, ← HT.out, step_left c1 (.inr c3)]; simp
                            clear hs3 hd3 hb3
                            go_wp2
                            go_quiet (fail)
                            go_wp2
                            go_roundw
                            case rel =>
                              have hk' := HK.out
                              first | exact ⟨i + 1, j, k + 1, updI d3 k (s i), by go_num, rfl, by go_num, by omega, by omega, by omega, by omega, by omega, HL.out.1.of_block rfl, HL.out.2.1.of_block rfl, below_drewN' HL.out.2.2, R⟩ | ((repeat apply Exists.intro); exact ⟨⟨i + 1, j, k + 1, updI d3 k (s i), by go_num, rfl, by go_num, by omega, by omega, by omega, by omega, by omega, HL.out.1.of_block rfl, HL.out.2.1.of_block rfl, below_drewN' HL.out.2.2, R⟩, rfl⟩)
                            case measure => simp [intOf]; omega
                          · have R : Hid (seg (updI d3 k (s j)) 0 (k + 1) ++ (seg s i (lo + W)).merge (seg s (j + 1) (lo + 2 * W)) leI = T) := by
                              show _ = _
                              rw [seg_upd, ← HT.out, step_right (s := s) (i := i) (j := j) (mid := lo + W) (hi := lo + 2 * W) (by omega) (fun _ => by omega)]; simp
                            have HL2 : Hid _ := And.intro (hs3.setOther (a := ⟨bd, k, none⟩) hne (.int .i64 (s j))) (And.intro (upd_row hd3 k (s j)) (show Below w.heap.size w (wr.setCell ⟨bd, k, none⟩ (.int .i64 (s j))) from hb3.setCell hbd _))
                            have c3I : s j < s i := by omega
                            clear hs3 hd3 hb3 HL c3
                            go_wp2
                            go_quiet (fail)
                            go_wp2
                            go_roundw
                            case rel =>
                              have hk' := HK.out
                              first | exact ⟨i, j + 1, k + 1, updI d3 k (s j), rfl, by go_num, by go_num, by omega, by omega, by omega, by omega, by omega, HL2.out.1.of_block rfl, HL2.out.2.1.of_block rfl, below_drewN' HL2.out.2.2, R⟩ | ((repeat apply Exists.intro); exact ⟨⟨i, j + 1, k + 1, updI d3 k (s j), rfl, by go_num, by go_num, by omega, by omega, by omega, by omega, by omega, HL2.out.1.of_block rfl, HL2.out.2.1.of_block rfl, below_drewN' HL2.out.2.2, R⟩, rfl⟩)
                            case measure => simp [intOf]; omega
                      · have cj := hs3.cell (i := j) (by omega)
                        have hjn : (j : Int) < (n : Int) := by omega
                        have c1' : decide ((i : Int) < (lo : Int) + (W : Int)) = false := decide_eq_false (by omega)
                        have c1I : (lo : Int) + (W : Int) ≤ (i : Int) := by omega
                        have R : Hid (seg (updI d3 k (s j)) 0 (k + 1) ++ (seg s i (lo + W)).merge (seg s (j + 1) (lo + 2 * W)) leI = T) := by
                          show _ = _
                          rw [seg_upd, ← HT.out, step_right (s := s) (i := i) (j := j) (mid := lo + W) (hi := lo + 2 * W) (by omega) (fun h => absurd h c1)]; simp
                        have HL2 : Hid _ := And.intro (hs3.setOther (a := ⟨bd, k, none⟩) hne (.int .i64 (s j))) (And.intro (upd_row hd3 k (s j)) (show Below w.heap.size w (wr.setCell ⟨bd, k, none⟩ (.int .i64 (s j))) from hb3.setCell hbd _))
                        clear hs3 hd3 hb3
                        go_wp2
                        go_quiet (fail)
                        go_wp2
                        go_roundw
                        case rel =>
                          have hk' := HK.out
                          first | exact ⟨i, j + 1, k + 1, updI d3 k (s j), rfl, by go_num, by go_num, by omega, by omega, by omega, by omega, by omega, HL2.out.1.of_block rfl, HL2.out.2.1.of_block rfl, below_drewN' HL2.out.2.2, R⟩ | ((repeat apply Exists.intro); exact ⟨⟨i, j + 1, k + 1, updI d3 k (s j), rfl, by go_num, by go_num, by omega, by omega, by omega, by omega, by omega, HL2.out.1.of_block rfl, HL2.out.2.1.of_block rfl, below_drewN' HL2.out.2.2, R⟩, rfl⟩)
                        case measure => simp [intOf]; omega
                    · have hke : k = lo + 2 * W := by omega
                      have hie : i = lo + W := by omega
                      have hje : j = lo + 2 * W := by omega
                      have R : Hid ((seg d3 0 (min (lo + 2 * W) n)).Perm (seg s 0 (min (lo + 2 * W) n)) ∧ Adj (2 * W) d3 (min (lo + 2 * W) n)) := by
                        have hT := HT.out
                        rw [hke, hie, hje, seg_none s (Nat.le_refl _), seg_none s (Nat.le_refl _), List.nil_merge, List.append_nil, ← hT0.out] at hT
                        have hD := HD.out
                        rw [show min lo n = lo from by omega] at hD
                        rw [show min (lo + 2 * W) n = lo + 2 * W from by omega]
                        exact block_done (W := W) (q := q) (n := n) (lo := lo) (mid := lo + W) (hi := lo + 2 * W) (by omega) HQ.out hln (by omega) (by omega) HP.out.2 hD.1 hD.2 hT.symm
                      have RQ : Hid (lo + 2 * W = (q + 1) * (2 * W)) := by
                        have := HQ.out
                        show _ = _
                        rw [Nat.add_mul, ← this]; omega
                      clear HT HK hT0 HD HQ hie hje hke
                      go_wp2
                      go_roundw
                      case rel => exact ⟨q + 1, lo + 2 * W, d3, by go_num, by omega, RQ, hs3, hd3, hb3, R⟩
                      case measure => simp [intOf]; omega
                · skip

                  obtain ⟨T, hT0⟩ : ∃ T, Hid (seg d2 0 lo ++ (seg s lo (lo + W)).merge (seg s (lo + W) (n)) leI = T) := ⟨_, (rfl : (seg d2 0 lo ++ (seg s lo (lo + W)).merge (seg s (lo + W) (n)) leI) = _)⟩
                  go_wp2
                  go_loopw [11, 12, 13] (fun iv jv kv wx => ∃ (i j k : Nat) (d3 : Nat → Int), iv = .int .i64 i ∧ jv = .int .i64 j ∧ kv = .int .i64 k ∧ lo ≤ i ∧ i ≤ lo + W ∧ lo + W ≤ j ∧ j ≤ n ∧ k + (lo + W) = i + j ∧ wx.rowIs bs 2 n (fun q => .int .i64 (s q)) ∧ wx.rowIs bd 2 n (fun q => .int .i64 (d3 q)) ∧ Below w.heap.size w wx ∧ Hid (seg d3 0 k ++ (seg s i (lo + W)).merge (seg s j (n)) leI = T)) (fun _ _ kv _ => n - (intOf kv).toNat)
                  case atStart => exact ⟨lo, lo + W, lo, d2, by go_num, by go_num, by go_num, Nat.le_refl _, by omega, Nat.le_refl _, by omega, by omega, hs2, hd2, hb2, hT0⟩
                  case round =>
                    obtain ⟨i, j, k, d3, rfl, rfl, rfl, hi1, hi2, hj1, hj2, hkij, hs3, hd3, hb3, HT⟩ := hrel
                    have HK : Hid (k + (lo + W) = i + j) := hkij
                    have hkl : k + (lo + W) ≤ i + j := by omega
                    have hkl' : i + j ≤ k + (lo + W) := by omega
                    clear hkij
                    by_cases hkh : k < n
                    · have hkn : k < n := by omega
                      have hfz := hd3.frozen k
                      obtain ⟨v0, hv0⟩ : ∃ v0, wr.cell? ⟨bd, k, none⟩ = some (.int .i64 v0) := ⟨_, hd3.cell hkn⟩
                      by_cases c1 : i < lo + W
                      · have ci := hs3.cell (i := i) (by omega)
                        have hin : (i : Int) < (n : Int) := by omega
                        have HL : Hid _ := And.intro (hs3.setOther (a := ⟨bd, k, none⟩) hne (.int .i64 (s i))) (And.intro (upd_row hd3 k (s i)) (show Below w.heap.size w (wr.setCell ⟨bd, k, none⟩ (.int .i64 (s i))) from hb3.setCell hbd _))
                        by_cases c2 : n ≤ j
                        · have c2' : decide ((j : Int) < (n : Int)) = false := decide_eq_false (by omega)
                          have c2I : (n : Int) ≤ (j : Int) := by omega
                          have c1I : (i : Int) < (lo : Int) + (W : Int) := by omega
                          have R : Hid (seg (updI d3 k (s i)) 0 (k + 1) ++ (seg s (i + 1) (lo + W)).merge (seg s j (n)) leI = T) := by
                            show _ = _
                            rw [seg_upd, ← HT.out, step_left c1 (.inl c2)]; simp
                          clear hs3 hd3 hb3
                          go_wp2
                          go_quiet (fail)
                          go_wp2
                          go_roundw
                          case rel =>
                            have hk' := HK.out
                            first | exact ⟨i + 1, j, k + 1, updI d3 k (s i), by go_num, rfl, by go_num, by omega, by omega, by omega, by omega, by omega, HL.out.1.of_block rfl, HL.out.2.1.of_block rfl, below_drewN' HL.out.2.2, R⟩ | ((repeat apply Exists.intro); exact ⟨⟨i + 1, j, k + 1, updI d3 k (s i), by go_num, rfl, by go_num, by omega, by omega, by omega, by omega, by omega, HL.out.1.of_block rfl, HL.out.2.1.of_block rfl, below_drewN' HL.out.2.2, R⟩, rfl⟩)
                          case measure => simp [intOf]; omega
                        · have cj := hs3.cell (i := j) (by omega)
                          have hjn : (j : Int) < (n : Int) := by omega
                          have c2I : (j : Int) < (n : Int) := by omega
                          have c2' : decide ((n : Int) ≤ (j : Int)) = false := decide_eq_false (by omega)
                          have c1I : (i : Int) < (lo : Int) + (W : Int) := by omega
                          by_cases c3 : s i ≤ s j
                          · have R : Hid (seg (updI d3 k (s i)) 0 (k + 1) ++ (seg s (i + 1) (lo + W)).merge (seg s j (n)) leI = T) := by
                              show _ = _
                              rw [seg_upd, ← HT.out, step_left c1 (.inr c3)]; simp
                            clear hs3 hd3 hb3
                            go_wp2
                            go_quiet (fail)
                            go_wp2
                            go_roundw
                            case rel =>
                              have hk' := HK.out
                              first | exact ⟨i + 1, j, k + 1, updI d3 k (s i), by go_num, rfl, by go_num, by omega, by omega, by omega, by omega, by omega, HL.out.1.of_block rfl, HL.out.2.1.of_block rfl, below_drewN' HL.out.2.2, R⟩ | ((repeat apply Exists.intro); exact ⟨⟨i + 1, j, k + 1, updI d3 k (s i), by go_num, rfl, by go_num, by omega, by omega, by omega, by omega, by omega, HL.out.1.of_block rfl, HL.out.2.1.of_block rfl, below_drewN' HL.out.2.2, R⟩, rfl⟩)
                            case measure => simp [intOf]; omega
                          · have R : Hid (seg (updI d3 k (s j)) 0 (k + 1) ++ (seg s i (lo + W)).merge (seg s (j + 1) (n)) leI = T) := by
                              show _ = _
                              rw [seg_upd, ← HT.out, step_right (s := s) (i := i) (j := j) (mid := lo + W) (hi := n) (by omega) (fun _ => by omega)]; simp
                            have HL2 : Hid _ := And.intro (hs3.setOther (a := ⟨bd, k, none⟩) hne (.int .i64 (s j))) (And.intro (upd_row hd3 k (s j)) (show Below w.heap.size w (wr.setCell ⟨bd, k, none⟩ (.int .i64 (s j))) from hb3.setCell hbd _))
                            have c3I : s j < s i := by omega
                            clear hs3 hd3 hb3 HL c3
                            go_wp2
                            go_quiet (fail)
                            go_wp2
                            go_roundw
                            case rel =>
                              have hk' := HK.out
                              first | exact ⟨i, j + 1, k + 1, updI d3 k (s j), rfl, by go_num, by go_num, by omega, by omega, by omega, by omega, by omega, HL2.out.1.of_block rfl, HL2.out.2.1.of_block rfl, below_drewN' HL2.out.2.2, R⟩ | ((repeat apply Exists.intro); exact ⟨⟨i, j + 1, k + 1, updI d3 k (s j), rfl, by go_num, by go_num, by omega, by omega, by omega, by omega, by omega, HL2.out.1.of_block rfl, HL2.out.2.1.of_block rfl, below_drewN' HL2.out.2.2, R⟩, rfl⟩)
                            case measure => simp [intOf]; omega
                      · have cj := hs3.cell (i := j) (by omega)
                        have hjn : (j : Int) < (n : Int) := by omega
                        have c1' : decide ((i : Int) < (lo : Int) + (W : Int)) = false := decide_eq_false (by omega)
                        have c1I : (lo : Int) + (W : Int) ≤ (i : Int) := by omega
                        have R : Hid (seg (updI d3 k (s j)) 0 (k + 1) ++ (seg s i (lo + W)).merge (seg s (j + 1) (n)) leI = T) := by
                          show _ = _
                          rw [seg_upd, ← HT.out, step_right (s := s) (i := i) (j := j) (mid := lo + W) (hi := n) (by omega) (fun h => absurd h c1)]; simp
                        have HL2 : Hid _ := And.intro (hs3.setOther (a := ⟨bd, k, none⟩) hne (.int .i64 (s j))) (And.intro (upd_row hd3 k (s j)) (show Below w.heap.size w (wr.setCell ⟨bd, k, none⟩ (.int .i64 (s j))) from hb3.setCell hbd _))
                        clear hs3 hd3 hb3
                        go_wp2
                        go_quiet (fail)
                        go_wp2
                        go_roundw
                        case rel =>
                          have hk' := HK.out
                          first | exact ⟨i, j + 1, k + 1, updI d3 k (s j), rfl, by go_num, by go_num, by omega, by omega, by omega, by omega, by omega, HL2.out.1.of_block rfl, HL2.out.2.1.of_block rfl, below_drewN' HL2.out.2.2, R⟩ | ((repeat apply Exists.intro); exact ⟨⟨i, j + 1, k + 1, updI d3 k (s j), rfl, by go_num, by go_num, by omega, by omega, by omega, by omega, by omega, HL2.out.1.of_block rfl, HL2.out.2.1.of_block rfl, below_drewN' HL2.out.2.2, R⟩, rfl⟩)
                        case measure => simp [intOf]; omega
                    · have hke : k = n := by omega
                      have hie : i = lo + W := by omega
                      have hje : j = n := by omega
                      have R : Hid ((seg d3 0 (min (lo + 2 * W) n)).Perm (seg s 0 (min (lo + 2 * W) n)) ∧ Adj (2 * W) d3 (min (lo + 2 * W) n)) := by
                        have hT := HT.out
                        rw [hke, hie, hje, seg_none s (Nat.le_refl _), seg_none s (Nat.le_refl _), List.nil_merge, List.append_nil, ← hT0.out] at hT
                        have hD := HD.out
                        rw [show min lo n = lo from by omega] at hD
                        rw [show min (lo + 2 * W) n = n from by omega]
                        exact block_done (W := W) (q := q) (n := n) (lo := lo) (mid := lo + W) (hi := n) (by omega) HQ.out hln (by omega) (by omega) HP.out.2 hD.1 hD.2 hT.symm
                      have RQ : Hid (lo + 2 * W = (q + 1) * (2 * W)) := by
                        have := HQ.out
                        show _ = _
                        rw [Nat.add_mul, ← this]; omega
                      clear HT HK hT0 HD HQ hie hje hke
                      go_wp2
                      go_roundw
                      case rel => exact ⟨q + 1, lo + 2 * W, d3, by go_num, by omega, RQ, hs3, hd3, hb3, R⟩
                      case measure => simp [intOf]; omega
              · skip
                have hc2 : ¬ lo + 2 * W ≤ n := by omega
                obtain ⟨T, hT0⟩ : ∃ T, Hid (seg d2 0 lo ++ (seg s lo (n)).merge (seg s (n) (n)) leI = T) := ⟨_, (rfl : (seg d2 0 lo ++ (seg s lo (n)).merge (seg s (n) (n)) leI) = _)⟩
                go_wp2
                go_loopw [11, 12, 13] (fun iv jv kv wx => ∃ (i j k : Nat) (d3 : Nat → Int), iv = .int .i64 i ∧ jv = .int .i64 j ∧ kv = .int .i64 k ∧ lo ≤ i ∧ i ≤ n ∧ n ≤ j ∧ j ≤ n ∧ k + (n) = i + j ∧ wx.rowIs bs 2 n (fun q => .int .i64 (s q)) ∧ wx.rowIs bd 2 n (fun q => .int .i64 (d3 q)) ∧ Below w.heap.size w wx ∧ Hid (seg d3 0 k ++ (seg s i (n)).merge (seg s j (n)) leI = T)) (fun _ _ kv _ => n - (intOf kv).toNat)
                case atStart => exact ⟨lo, n, lo, d2, by go_num, by go_num, by go_num, Nat.le_refl _, by omega, Nat.le_refl _, by omega, by omega, hs2, hd2, hb2, hT0⟩
                case round =>
                  obtain ⟨i, j, k, d3, rfl, rfl, rfl, hi1, hi2, hj1, hj2, hkij, hs3, hd3, hb3, HT⟩ := hrel
                  have HK : Hid (k + (n) = i + j) := hkij
                  have hkl : k + (n) ≤ i + j := by omega
                  have hkl' : i + j ≤ k + (n) := by omega
                  clear hkij
                  by_cases hkh : k < n
                  · have hkn : k < n := by omega
                    have hfz := hd3.frozen k
                    obtain ⟨v0, hv0⟩ : ∃ v0, wr.cell? ⟨bd, k, none⟩ = some (.int .i64 v0) := ⟨_, hd3.cell hkn⟩
                    by_cases c1 : i < n
                    · have ci := hs3.cell (i := i) (by omega)
                      have hin : (i : Int) < (n : Int) := by omega
                      have HL : Hid _ := And.intro (hs3.setOther (a := ⟨bd, k, none⟩) hne (.int .i64 (s i))) (And.intro (upd_row hd3 k (s i)) (show Below w.heap.size w (wr.setCell ⟨bd, k, none⟩ (.int .i64 (s i))) from hb3.setCell hbd _))
                      by_cases c2 : n ≤ j
                      · have c2' : decide ((j : Int) < (n : Int)) = false := decide_eq_false (by omega)
                        have c2I : (n : Int) ≤ (j : Int) := by omega
                        have c1I : (i : Int) < (n : Int) := by omega
                        have R : Hid (seg (updI d3 k (s i)) 0 (k + 1) ++ (seg s (i + 1) (n)).merge (seg s j (n)) leI = T) := by
                          show _ = _
                          rw [seg_upd, ← HT.out, step_left c1 (.inl c2)]; simp
                        clear hs3 hd3 hb3
                        go_wp2
                        go_quiet (fail)
                        go_wp2
                        go_roundw
                        case rel =>
                          have hk' := HK.out
                          first | exact ⟨i + 1, j, k + 1, updI d3 k (s i), by go_num, rfl, by go_num, by omega, by omega, by omega, by omega, by omega, HL.out.1.of_block rfl, HL.out.2.1.of_block rfl, below_drewN' HL.out.2.2, R⟩ | ((repeat apply Exists.intro); exact ⟨⟨i + 1, j, k + 1, updI d3 k (s i), by go_num, rfl, by go_num, by omega, by omega, by omega, by omega, by omega, HL.out.1.of_block rfl, HL.out.2.1.of_block rfl, below_drewN' HL.out.2.2, R⟩, rfl⟩)
                        case measure => simp [intOf]; omega
                      · omega
                    · omega
                  · have hke : k = n := by omega
                    have hie : i = n := by omega
                    have hje : j = n := by omega
                    have R : Hid ((seg d3 0 (min (lo + 2 * W) n)).Perm (seg s 0 (min (lo + 2 * W) n)) ∧ Adj (2 * W) d3 (min (lo + 2 * W) n)) := by
                      have hT := HT.out
                      rw [hke, hie, hje, seg_none s (Nat.le_refl _), List.nil_merge, List.append_nil, ← hT0.out] at hT
                      have hD := HD.out
                      rw [show min lo n = lo from by omega] at hD
                      rw [show min (lo + 2 * W) n = n from by omega]
                      exact block_done (W := W) (q := q) (n := n) (lo := lo) (mid := n) (hi := n) (by omega) HQ.out hln (by omega) (by omega) HP.out.2 hD.1 hD.2 hT.symm
                    have RQ : Hid (lo + 2 * W = (q + 1) * (2 * W)) := by
                      have := HQ.out
                      show _ = _
                      rw [Nat.add_mul, ← this]; omega
                    clear HT HK hT0 HD HQ hie hje hke
                    go_wp2
                    go_roundw
                    case rel => exact ⟨q + 1, lo + 2 * W, d3, by go_num, by omega, RQ, hs3, hd3, hb3, R⟩
                    case measure => simp [intOf]; omega
            · have R : Hid ((seg d2 0 n).Perm (seg f 0 n) ∧ Adj (2 * W) d2 n) := by
                have hD := HD.out
                rw [show min lo n = n from by omega] at hD
                exact ⟨hD.1.trans HP.out.1, hD.2⟩
              clear HD HQ HP
              go_wp2
              go_roundw
              case rel => exact ⟨2 * W, bd, bs, d2, s, rfl, rfl, by go_num, by omega, by omega, fun e => hne e.symm, hbd, hbs, hd2, hs2, R, hb2⟩
              case measure => simp [intOf]; omega
        · have R : Hid ((seg s 0 n).Perm (seg f 0 n) ∧ (seg s 0 n).Pairwise (· ≤ ·)) := ⟨HP.out.1, adj_sorted HP.out.2 (by omega)⟩
          clear HP hd1
          go_wp2
          go_ret
          exact ⟨bs, s, rfl, hs1, R, hb1⟩
end Go.Proofs.Qxb6602950a
