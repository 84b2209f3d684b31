/- WORK: ZZLevels, zzEqual64. -/
import Derived.Test.Qxb6602950aLevWalk
namespace Go.Proofs.Qxb6602950a
open Go.RowKit

theorem flat_at (L : List (Int × Int)) (k : Nat) (h : k < L.length) : (flat L)[k * 2]? = some (.int .i64 L[k].1) ∧ (flat L)[k * 2 + 1]? = some (.int .i64 L[k].2) := by
  have e : L = L.take k ++ [(L[k].1, L[k].2)] ++ L.drop (k + 1) := by
    have h1 := List.take_append_drop k L
    rw [List.drop_eq_getElem_cons h] at h1
    rw [List.append_assoc]
    exact h1.symm
  have hl : (L.take k).length = k := by rw [List.length_take]; omega
  have f := flat_last (L.take k) L[k].1 L[k].2
  rw [hl] at f
  have hlen : (flat (L.take k ++ [(L[k].1, L[k].2)])).length = (k + 1) * 2 := by rw [flat_length, List.length_append, hl]; rfl
  have e2 : flat L = flat (L.take k ++ [(L[k].1, L[k].2)]) ++ flat (L.drop (k + 1)) := by rw [← flat_append, ← e]
  rw [e2, List.getElem?_append_left (by rw [hlen]; omega), List.getElem?_append_left (by rw [hlen]; omega)]
  exact f
theorem lev_length (n : Int) (U : List Int) (hn : n ≤ 65536) (hU : U.length ≤ 131072) : (lev n U).length ≤ 1048576 := by
  unfold lev
  split
  · simp
  · refine Nat.le_trans (Lev.runs_length _) ?_
    simp [srt]; omega
theorem rowIs_gby {w w' : World} {b n t : Nat} {f : Nat → Value} (h : w.rowIs b t n f) (hb : Below w.heap.size w w') : w'.rowIs b t n f := h.of_block (hb.block b h.lt)

set_option maxHeartbeats 800000 in
theorem zzlevels (n : Int) (ua : Option Addr) (ulen ucap : Nat) (U : List Int) (ta : Option Addr) (tn tcap : Nat) (X : List Int) (B : Nat) (r : Option Nat) (w : World) (hn : n ≤ 65536) (hn' : -65536 ≤ n) (hul : ulen ≤ 131072)
    (hU : Src w ua ulen ucap U) (hX : X.length = tn) (ht : w.ownsRow B 2 1 (.slice ta tn tcap) tn (X.map (Value.int .i64))) (hBw : B ≤ w.heap.size) (hr : (Value.slice ta 0 tcap).ownBlock = r) (L : List (Int × Int)) (hL : lev n U = L) :
    Calls Try.prog 8 #[.int .i64 n, .slice ua ulen ucap, .slice ta tn tcap] w fun e w' => ∃ b1 b2 tv', e = .returned (.tuple #[.slice (some ⟨b1, 0, none⟩) L.length L.length, .slice (some ⟨b2, 0, none⟩) L.length L.length, tv']) ∧
      w'.rowIs b1 2 L.length (fun i => .int .i64 (L.getD i (0, 0)).1) ∧ w'.rowIs b2 2 L.length (fun i => .int .i64 (L.getD i (0, 0)).2) ∧
      w'.ownsRow B 2 1 tv' (buf n U X).length ((buf n U X).map (Value.int .i64)) ∧ w.grownBy w' r := by
  have hLl := lev_length n U hn (by rw [hU.1]; exact hul)
  rw [hL] at hLl
  have hmk := run_make_row' (P := Try.prog) 22 2 (.int .i64 0) 8 Try.underlying22 info2 rfl .i64 .i64 L.length (by omega) (by omega)
  have HL : Hid (lev n U = L) := hL
  clear hL
  go_enter Try.func8, Try.ntmps8
  go_wp2_with fail
  refine (levels_any w.heap.size n ua ulen ucap U ta tn tcap X B r _ hn hn' hul (by simp) (by simp) ⟨hU.1, hU.2.1, fun a ha j u hu => by
    have := hU.2.2 a ha j u hu
    exact (World.grownBy_alloc w _ none).cell this (by simp)⟩ hX (ht.alloc _) (by simp; omega) hr (by
      intro e
      have h1 := ht.lt w.heap.size (by cases ta <;> simp_all [Value.ownBlock])
      omega)).mono ?_
  rw [HL.out]
  rintro e w2 ⟨a6, c6, tv2, rfl, ho6, hoT, hG⟩
  have hG2 : w.grownBy w2 r := gby_trans (World.grownBy_alloc w _ r) hG (fun b hb => .inl hb)
  have hsz2 := hG2.size
  have hof := ho6.form
  clear hG hU ht hr
  go_wp2
  go_loopw [14] (fun i wr => ∃ k : Nat, k ≤ L.length ∧ i = .int .i64 k ∧ wr.rowIs w2.heap.size 2 L.length (fun j => .int .i64 (if j < k then (L.getD j (0, 0)).1 else 0)) ∧ wr.rowIs (w2.heap.size + 1) 2 L.length (fun j => .int .i64 (if j < k then (L.getD j (0, 0)).2 else 0)) ∧ Below w2.heap.size w2 wr)
    (fun i _ => L.length - (intOf i).toNat)
  case atStart =>
    refine ⟨0, Nat.zero_le _, rfl, ?_, ?_, ((Below.refl _ _).alloc (Nat.le_refl _) _).alloc (by simp) _⟩
    · exact ((World.rowIs_made w2 (.int .i64 0) L.length 2).alloc _).congr (fun i _ => by simp)
    · have := (World.rowIs_made (w2.alloc (.cells (madeCells #[.int .i64 0] L.length) 2)) (.int .i64 0) L.length 2).congr (g := fun j => .int .i64 (if j < 0 then (L.getD j (0, 0)).2 else 0)) (fun i _ => by simp)
      simpa using this
  case round =>
    obtain ⟨k, hk, rfl, hr1, hr2, hb⟩ := hrel
    by_cases hlt : k < L.length
    · obtain ⟨g6, c6', hv6, hg6, hg6'⟩ := hof (by omega)
      cases hv6
      obtain ⟨p1, p2, HK⟩ : ∃ p1 p2, Hid (L[k] = (p1, p2)) := ⟨L[k].1, L[k].2, (rfl : L[k] = (L[k].1, L[k].2))⟩
      have e1 : wr.cell? ⟨g6, k * 2, none⟩ = some (.int .i64 p1) := (hb.cell (p := ⟨g6, k * 2, none⟩) hg6').trans (by rw [ho6.cellAt _ (by omega)]; rw [(flat_at L k hlt).1, HK.out])
      have e2 : wr.cell? ⟨g6, k * 2 + 1, none⟩ = some (.int .i64 p2) := (hb.cell (p := ⟨g6, k * 2 + 1, none⟩) hg6').trans (by rw [ho6.cellAt _ (by omega)]; rw [(flat_at L k hlt).2, HK.out])
      have hf1 := hr1.frozen k
      have hf2 := hr2.frozen k
      obtain ⟨v0, hv0⟩ : ∃ v0, wr.cell? ⟨w2.heap.size, k, none⟩ = some (.int .i64 v0) := ⟨_, hr1.cell hlt⟩
      obtain ⟨v1, hv1⟩ : ∃ v0, wr.cell? ⟨w2.heap.size + 1, k, none⟩ = some (.int .i64 v0) := ⟨_, hr2.cell hlt⟩
      have hLk : L.getD k (0, 0) = (p1, p2) := by rw [← HK.out]; simp [hlt]
      have R1 : ((wr.setCell ⟨w2.heap.size, k, none⟩ (.int .i64 p1)).setCell ⟨w2.heap.size + 1, k, none⟩ (.int .i64 p2)).rowIs w2.heap.size 2 L.length (fun j => .int .i64 (if j < k + 1 then (L.getD j (0, 0)).1 else 0)) := by
        refine ((hr1.set k (.int .i64 p1)).setOther (by simp) _).congr (fun j hj => ?_)
        by_cases e : j = k
        · subst e; rw [if_pos rfl, if_pos (by omega), hLk]
        · rw [if_neg e]
          by_cases e2 : j < k
          · rw [if_pos e2, if_pos (by omega)]
          · rw [if_neg e2, if_neg (by omega)]
      have R2 : ((wr.setCell ⟨w2.heap.size, k, none⟩ (.int .i64 p1)).setCell ⟨w2.heap.size + 1, k, none⟩ (.int .i64 p2)).rowIs (w2.heap.size + 1) 2 L.length (fun j => .int .i64 (if j < k + 1 then (L.getD j (0, 0)).2 else 0)) := by
        refine ((hr2.setOther (a := ⟨w2.heap.size, k, none⟩) (by simp) (.int .i64 p1)).set k (.int .i64 p2)).congr (fun j hj => ?_)
        by_cases e : j = k
        · subst e; rw [if_pos rfl, if_pos (by omega), hLk]
        · rw [if_neg e]
          by_cases e2 : j < k
          · rw [if_pos e2, if_pos (by omega)]
          · rw [if_neg e2, if_neg (by omega)]
      have R3 : Below w2.heap.size w2 ((wr.setCell ⟨w2.heap.size, k, none⟩ (.int .i64 p1)).setCell ⟨w2.heap.size + 1, k, none⟩ (.int .i64 p2)) := (hb.setCell (Nat.le_refl _) _).setCell (by simp) _
      have HR : Hid _ := And.intro R1 (And.intro R2 R3)
      clear hLk R1 R2 R3 hr1 hr2
      go_wp2
      go_roundw
      case rel => exact ⟨k + 1, by omega, by go_num, HR.out⟩
      case measure => simp [intOf]; omega
    · have hkn : k = L.length := by omega
      subst hkn
      have q1 : wr.rowIs w2.heap.size 2 L.length (fun i => .int .i64 (L.getD i (0, 0)).1) := hr1.congr (fun j hj => by rw [if_pos hj])
      have q2 : wr.rowIs (w2.heap.size + 1) 2 L.length (fun i => .int .i64 (L.getD i (0, 0)).2) := hr2.congr (fun j hj => by rw [if_pos hj])
      have q3 : wr.ownsRow B 2 1 tv2 (buf n U X).length ((buf n U X).map (Value.int .i64)) := hoT.kept ⟨hb.os, hb.tape, hb.output, hb.size, fun b h _ => hb.block b h⟩ (row := none) (by cases tv2.ownBlock <;> simp)
      have q4 : w.grownBy wr r := gby_trans hG2 ⟨hb.os, hb.tape, hb.output, hb.size, fun b h _ => hb.block b h⟩ (row' := none) (fun b h => by cases h)
      clear hr1 hr2 hoT hG2 hb
      go_wp2
      go_ret3
      exact ⟨_, _, _, rfl, q1, q2, q3, q4⟩

set_option maxHeartbeats 400000 in
/-- Two slices that hold the same numbers. -/
theorem equal_own (a b : Option Addr) (n c1 c2 : Nat) (f : Nat → Int) (w : World) (hn : n ≤ 1048576) (h1 : Own w a n f) (h2 : Own w b n f) :
    Calls Try.prog 11 #[.slice a n c1, .slice b n c2] w fun e w' => e = .returned (.bool true) ∧ ∃ k, w' = w.drewN k := by
  go_enter Try.func11, Try.ntmps11
  go_wp2
  go_loopw [5] (fun i wr => ∃ k q : Nat, k ≤ n ∧ i = .int .i64 k ∧ wr = w.drewN q) (fun i _ => n - (intOf i).toNat)
  case atStart => exact ⟨0, 0, Nat.zero_le _, rfl, rfl⟩
  case round =>
    obtain ⟨k, q, hk, rfl, rfl⟩ := hrel
    by_cases hlt : k < n
    · rcases h1 with h1 | ⟨x, rfl, hx, h1⟩
      · omega
      rcases h2 with h2 | ⟨y, rfl, hy, h2⟩
      · omega
      have e1 := h1 k hlt
      have e2 := h2 k hlt
      have hltI : (k : Int) < (n : Int) := by omega
      go_wp2
      go_quiet (fail)
      go_wp2
      go_roundw
      case rel => exact ⟨k + 1, q + nq, by omega, by go_num, rfl⟩
      case measure => simp [intOf]; omega
    · go_wp2
      go_ret
      exact ⟨rfl, q, rfl⟩
end Go.Proofs.Qxb6602950a
