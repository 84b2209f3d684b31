/- WORK: the law's own walk: the main way. -/
import Derived.Test.Qxb6602950aHashMain
namespace Go.Proofs.Qxb6602950a
open Go.RowKit

theorem own_upd {w : World} {b n : Nat} {f : Nat → Int} (h : w.rowIs b 2 n (fun i => .int .i64 (f i))) (k : Nat) (y : Int) : Own (w.setCell ⟨b, k, none⟩ (.int .i64 y)) (some ⟨b, 0, none⟩) n (upd f k y) :=
  own_row ((h.set k (.int .i64 y)).congr (fun j _ => by unfold upd; by_cases e : j = k <;> simp [e]))
theorem rowIs_below {w w' : World} {b n t : Nat} {f : Nat → Value} (h : w.rowIs b t n f) (hb : Below w.heap.size w w') : w'.rowIs b t n f := h.of_block (hb.block b h.lt)

set_option maxRecDepth 100000 in
set_option maxHeartbeats 4000000 in
theorem lawF (a0 a1 a2 a3 : Int) (x1 x2 : Option Addr) (n c1 c2 : Nat) (f g : Nat → Int) (u v W : UInt64) (p : Nat) (w : World) (h : n ≤ 65536) (hp : p < 6 + 2 * n) (hc : Own w x1 n f) (hd : Own w x2 n g)
    (hn1 : x1 = none → n = 0 ∧ c1 = 0) (hn2 : x2 = none → n = 0 ∧ c2 = 0)
    (hW : (((wordAt a0 a1 a2 a3 f g n u v p).toNat : Int) == (W.toNat : Int)) = false) :
    Calls Try.prog 5 #[.int .i64 a0, .int .i64 a1, .int .i64 a2, .int .i64 a3, .slice x1 n c1, .slice x2 n c2, .int .u64 u.toNat, .int .u64 v.toNat, .int .i64 p, .int .u64 W.toNat] w fun e w' => e = .returned (.bool true) ∧ Below w.heap.size w w' := by
  have hp' : (p : Int) < 6 + 2 * (n : Int) := by omega
  go_enter Try.func5, Try.ntmps5
  go_wp2_with (first | (go_at_call 13; refine (bytes13_yes a0 a1 a2 a3 x1 x2 n n c1 c2 _ _ _ _ _ (by omega)).mono ?_; rintro e w' ⟨rfl, rfl⟩) | (go_at_call 14; refine (word_any a0 a1 a2 a3 x1 x2 n c1 c2 f g u v p _ (by omega) hc hd hp).mono ?_; rintro e w' ⟨rfl, rfl⟩))
  refine (clone_own x1 n c1 f _ (by omega) hc hn1).mono ?_
  rintro e w1 ⟨y1, rfl, hb1, ho1⟩
  go_wp2_with fail
  refine (clone_own x2 n c2 g w1 (by omega) (hd.below hb1) hn2).mono ?_
  rintro e w2 ⟨y2, rfl, hb2, ho2⟩
  go_wp2_with fail
  have o1 : Own w1 y1 n f := by
    rcases ho1 with h | ⟨rfl, h⟩
    · exact .inl h
    · exact own_row h
  have o2 : Own w2 y2 n g := by
    rcases ho2 with h | ⟨rfl, h⟩
    · exact .inl h
    · exact own_row h
  have z1 : y1 = none → n = 0 ∧ n = 0 := fun e => by
    rcases ho1 with h | ⟨h', h⟩
    · exact ⟨h, h⟩
    · rw [h'] at e; cases e
  have z2 : y2 = none → n = 0 ∧ n = 0 := fun e => by
    rcases ho2 with h | ⟨h', h⟩
    · exact ⟨h, h⟩
    · rw [h'] at e; cases e
  clear ho1 ho2 hc hd hn1 hn2
  refine (clone_own y1 n n f w2 (by omega) (o1.below hb2) z1).mono ?_
  rintro e w3 ⟨y3, rfl, hb3, ho3⟩
  go_wp2_with fail
  refine (clone_own y2 n n g w3 (by omega) (o2.below hb3) z2).mono ?_
  rintro e w4 ⟨y4, rfl, hb4, ho4⟩
  have hbw := hb1.trans ((hb2.mono hb1.size).trans ((hb3.mono (Nat.le_trans hb1.size hb2.size)).trans (hb4.mono (Nat.le_trans hb1.size (Nat.le_trans hb2.size hb3.size)))))
  have hsz := hbw.size
  have o1' : Own w4 y1 n f := ((o1.below hb2).below hb3).below hb4
  have o2' : Own w4 y2 n g := (o2.below hb3).below hb4
  have o3 : Own w4 y3 n f := by
    rcases ho3 with h | ⟨rfl, h⟩
    · exact .inl h
    · exact own_row (rowIs_below h hb4)
  have o4 : Own w4 y4 n g := by
    rcases ho4 with h | ⟨rfl, h⟩
    · exact .inl h
    · exact own_row h
  have hW' : wordAt a0 a1 a2 a3 f g n u v p ≠ W := fun e => by rw [e] at hW; simp at hW
  clear hW
  rcases (show p = 0 ∨ p = 1 ∨ p = 2 ∨ p = 3 ∨ (4 ≤ p ∧ p < 4 + 2 * n) ∨ p = 4 + 2 * n ∨ p = 5 + 2 * n from by omega) with rfl | rfl | rfl | rfl | ⟨h4, h5⟩ | h | h
  · have hne := bne0 a0 a1 a2 a3 f g n u v W hW'
    have HN : Hid _ := hne
    clear hne hW'
    go_wp2_with fail
    refine (zzhash_own a0 a1 a2 a3 y1 y2 n n n f g u v _ (by omega) o1' o2').mono ?_
    rintro e w5 ⟨rfl, hb5⟩
    go_wp2_with fail
    refine (zzhash_own (wrap64 W.toNat) a1 a2 a3 y3 y4 n n n f g u v _ (by omega) (o3.below hb5) (o4.below hb5)).mono ?_
    rintro e w6 ⟨rfl, hb6⟩
    have hne := HN.out
    go_wp2
    go_ret
    exact ⟨rfl, hbw.trans ((hb5.mono hsz).trans (hb6.mono (Nat.le_trans hsz hb5.size)))⟩
  · have hne := bne1 a0 a1 a2 a3 f g n u v W hW'
    have HN : Hid _ := hne
    clear hne hW'
    go_wp2_with fail
    refine (zzhash_own a0 a1 a2 a3 y1 y2 n n n f g u v _ (by omega) o1' o2').mono ?_
    rintro e w5 ⟨rfl, hb5⟩
    go_wp2_with fail
    refine (zzhash_own a0 (wrap64 W.toNat) a2 a3 y3 y4 n n n f g u v _ (by omega) (o3.below hb5) (o4.below hb5)).mono ?_
    rintro e w6 ⟨rfl, hb6⟩
    have hne := HN.out
    go_wp2
    go_ret
    exact ⟨rfl, hbw.trans ((hb5.mono hsz).trans (hb6.mono (Nat.le_trans hsz hb5.size)))⟩
  · have hne := bne2 a0 a1 a2 a3 f g n u v W hW'
    have HN : Hid _ := hne
    clear hne hW'
    go_wp2_with fail
    refine (zzhash_own a0 a1 a2 a3 y1 y2 n n n f g u v _ (by omega) o1' o2').mono ?_
    rintro e w5 ⟨rfl, hb5⟩
    go_wp2_with fail
    refine (zzhash_own a0 a1 (wrap64 W.toNat) a3 y3 y4 n n n f g u v _ (by omega) (o3.below hb5) (o4.below hb5)).mono ?_
    rintro e w6 ⟨rfl, hb6⟩
    have hne := HN.out
    go_wp2
    go_ret
    exact ⟨rfl, hbw.trans ((hb5.mono hsz).trans (hb6.mono (Nat.le_trans hsz hb5.size)))⟩
  · have hne := bne3 a0 a1 a2 a3 f g n u v W hW'
    have HN : Hid _ := hne
    clear hne hW'
    go_wp2_with fail
    refine (zzhash_own a0 a1 a2 a3 y1 y2 n n n f g u v _ (by omega) o1' o2').mono ?_
    rintro e w5 ⟨rfl, hb5⟩
    go_wp2_with fail
    refine (zzhash_own a0 a1 a2 (wrap64 W.toNat) y3 y4 n n n f g u v _ (by omega) (o3.below hb5) (o4.below hb5)).mono ?_
    rintro e w6 ⟨rfl, hb6⟩
    have hne := HN.out
    go_wp2
    go_ret
    exact ⟨rfl, hbw.trans ((hb5.mono hsz).trans (hb6.mono (Nat.le_trans hsz hb5.size)))⟩
  · rcases ho3 with h0 | ⟨e3, h3⟩
    · omega
    rcases ho4 with h0 | ⟨e4, h4r⟩
    · omega
    have h3r := rowIs_below h3 hb4
    have k1 : ((p : Int) - 4) / 2 < (n : Int) := by omega
    have k2 : (p - 4) / 2 < n := by omega
    by_cases he : ((p : Int) - 4) % 2 = 0
    · have hne := bneT a0 a1 a2 a3 f g n u v W p h4 h5 he hW'
      have HN : Hid _ := hne
      have B : Below w2.heap.size w2 (w4.setCell ⟨w2.heap.size, (p - 4) / 2, none⟩ (.int .i64 (wrap64 W.toNat))) := (hb3.trans (hb4.mono hb3.size)).setCell (Nat.le_refl _) _
      have Q1 : Own (w4.setCell ⟨w2.heap.size, (p - 4) / 2, none⟩ (.int .i64 (wrap64 W.toNat))) y1 n f := (o1.below hb2).below B
      have Q2 : Own (w4.setCell ⟨w2.heap.size, (p - 4) / 2, none⟩ (.int .i64 (wrap64 W.toNat))) y2 n g := o2.below B
      have Q3 : Own (w4.setCell ⟨w2.heap.size, (p - 4) / 2, none⟩ (.int .i64 (wrap64 W.toNat))) (some ⟨w2.heap.size, 0, none⟩) n (upd f ((p - 4) / 2) (wrap64 W.toNat)) := own_upd h3r ((p - 4) / 2) (wrap64 W.toNat)
      have Q4 : Own (w4.setCell ⟨w2.heap.size, (p - 4) / 2, none⟩ (.int .i64 (wrap64 W.toNat))) (some ⟨w3.heap.size, 0, none⟩) n g := own_row (h4r.setOther (fun e => by have := h3.lt; simp at e; omega) _)
      have bs : Below w'.heap.size w' (w4.setCell ⟨w2.heap.size, (p - 4) / 2, none⟩ (.int .i64 (wrap64 W.toNat))) := hbw.setCell (by simp; first | exact Nat.le_trans hb1.size hb2.size | exact Nat.le_trans hb1.size (Nat.le_trans hb2.size hb3.size)) _
      have hszs := bs.size
      obtain ⟨q, hq⟩ : ∃ q, w4.cell? ⟨w2.heap.size, (p - 4) / 2, none⟩ = some (.int .i64 q) := ⟨_, h3r.cell k2⟩
      have hfz := h3r.frozen ((p - 4) / 2)
      have HB : Hid _ := B
      have HQ : Hid _ := (And.intro Q1 (And.intro Q2 (And.intro Q3 (And.intro Q4 bs))))
      clear hne hW' B Q1 Q2 Q3 Q4 bs h3r h3 h4r o1 o2 o1' o2' o3 o4
      rw [e3, e4]
      go_wp2_with fail
      obtain ⟨Q1, Q2, Q3, Q4, bs⟩ := HQ.out
      refine (zzhash_own a0 a1 a2 a3 y1 y2 n n n f g u v _ (by omega) Q1 Q2).mono ?_
      rintro e w5 ⟨rfl, hb5⟩
      go_wp2_with fail
      refine (zzhash_own a0 a1 a2 a3 _ _ n n n (upd f ((p - 4) / 2) (wrap64 W.toNat)) g u v _ (by omega) (Q3.below hb5) (Q4.below hb5)).mono ?_
      rintro e w6 ⟨rfl, hb6⟩
      have hne := HN.out
      go_wp2
      go_ret
      exact ⟨rfl, bs.trans ((hb5.mono hszs).trans (hb6.mono (Nat.le_trans hszs hb5.size)))⟩
    · have he' : ((p : Int) - 4) % 2 = 1 := by omega
      clear he
      have hne := bneD a0 a1 a2 a3 f g n u v W p h4 h5 he' hW'
      have HN : Hid _ := hne
      have B : Below w3.heap.size w3 (w4.setCell ⟨w3.heap.size, (p - 4) / 2, none⟩ (.int .i64 (wrap64 W.toNat))) := hb4.setCell (Nat.le_refl _) _
      have Q1 : Own (w4.setCell ⟨w3.heap.size, (p - 4) / 2, none⟩ (.int .i64 (wrap64 W.toNat))) y1 n f := ((o1.below hb2).below hb3).below B
      have Q2 : Own (w4.setCell ⟨w3.heap.size, (p - 4) / 2, none⟩ (.int .i64 (wrap64 W.toNat))) y2 n g := (o2.below hb3).below B
      have Q3 : Own (w4.setCell ⟨w3.heap.size, (p - 4) / 2, none⟩ (.int .i64 (wrap64 W.toNat))) (some ⟨w2.heap.size, 0, none⟩) n f := own_row (rowIs_below h3 B)
      have Q4 : Own (w4.setCell ⟨w3.heap.size, (p - 4) / 2, none⟩ (.int .i64 (wrap64 W.toNat))) (some ⟨w3.heap.size, 0, none⟩) n (upd g ((p - 4) / 2) (wrap64 W.toNat)) := own_upd h4r ((p - 4) / 2) (wrap64 W.toNat)
      have bs : Below w'.heap.size w' (w4.setCell ⟨w3.heap.size, (p - 4) / 2, none⟩ (.int .i64 (wrap64 W.toNat))) := hbw.setCell (by simp; first | exact Nat.le_trans hb1.size hb2.size | exact Nat.le_trans hb1.size (Nat.le_trans hb2.size hb3.size)) _
      have hszs := bs.size
      obtain ⟨q, hq⟩ : ∃ q, w4.cell? ⟨w3.heap.size, (p - 4) / 2, none⟩ = some (.int .i64 q) := ⟨_, h4r.cell k2⟩
      have hfz := h4r.frozen ((p - 4) / 2)
      have HB : Hid _ := B
      have HQ : Hid _ := (And.intro Q1 (And.intro Q2 (And.intro Q3 (And.intro Q4 bs))))
      clear hne hW' B Q1 Q2 Q3 Q4 bs h3r h3 h4r o1 o2 o1' o2' o3 o4
      rw [e3, e4]
      go_wp2_with fail
      obtain ⟨Q1, Q2, Q3, Q4, bs⟩ := HQ.out
      refine (zzhash_own a0 a1 a2 a3 y1 y2 n n n f g u v _ (by omega) Q1 Q2).mono ?_
      rintro e w5 ⟨rfl, hb5⟩
      go_wp2_with fail
      refine (zzhash_own a0 a1 a2 a3 _ _ n n n f (upd g ((p - 4) / 2) (wrap64 W.toNat)) u v _ (by omega) (Q3.below hb5) (Q4.below hb5)).mono ?_
      rintro e w6 ⟨rfl, hb6⟩
      have hne := HN.out
      go_wp2
      go_ret
      exact ⟨rfl, bs.trans ((hb5.mono hszs).trans (hb6.mono (Nat.le_trans hszs hb5.size)))⟩
  · rw [h] at hW'
    have e0 : ((p : Int) == 4 + 2 * (n : Int)) = true := by rw [beq_iff_eq]; omega
    have e1 : ¬ (p : Int) < 4 + 2 * (n : Int) := by omega
    have e2 : 4 ≤ p := by omega
    clear h
    have hne := bneU a0 a1 a2 a3 f g n u v W hW'
    have HN : Hid _ := hne
    clear hne hW'
    go_wp2_with fail
    refine (zzhash_own a0 a1 a2 a3 y1 y2 n n n f g u v _ (by omega) o1' o2').mono ?_
    rintro e w5 ⟨rfl, hb5⟩
    go_wp2_with fail
    refine (zzhash_own a0 a1 a2 a3 y3 y4 n n n f g W v _ (by omega) (o3.below hb5) (o4.below hb5)).mono ?_
    rintro e w6 ⟨rfl, hb6⟩
    have hne := HN.out
    go_wp2
    go_ret
    exact ⟨rfl, hbw.trans ((hb5.mono hsz).trans (hb6.mono (Nat.le_trans hsz hb5.size)))⟩
  · rw [h] at hW'
    have e0 : ((p : Int) == 4 + 2 * (n : Int)) = false := by rw [beq_eq_false_iff_ne]; omega
    have e1 : ¬ (p : Int) < 4 + 2 * (n : Int) := by omega
    have e2 : 4 ≤ p := by omega
    clear h
    have hne := bneV a0 a1 a2 a3 f g n u v W hW'
    have HN : Hid _ := hne
    clear hne hW'
    go_wp2_with fail
    refine (zzhash_own a0 a1 a2 a3 y1 y2 n n n f g u v _ (by omega) o1' o2').mono ?_
    rintro e w5 ⟨rfl, hb5⟩
    go_wp2_with fail
    refine (zzhash_own a0 a1 a2 a3 y3 y4 n n n f g u W _ (by omega) (o3.below hb5) (o4.below hb5)).mono ?_
    rintro e w6 ⟨rfl, hb6⟩
    have hne := HN.out
    go_wp2
    go_ret
    exact ⟨rfl, hbw.trans ((hb5.mono hsz).trans (hb6.mono (Nat.le_trans hsz hb5.size)))⟩
end Go.Proofs.Qxb6602950a
