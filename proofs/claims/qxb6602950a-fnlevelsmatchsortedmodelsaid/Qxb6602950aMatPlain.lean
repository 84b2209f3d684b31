/- WORK: the law FnLevelsMatchSortedModel: plain facts, early ways out. -/
import Derived.Test.Qxb6602950aExpWalk
namespace Go.Proofs.Qxb6602950a
open Go.RowKit

theorem srt_sorted (n : Int) (U : List Int) : (srt n U).Pairwise (· ≤ ·) := sorted_sort _
theorem srt_is_perm (n : Int) (U : List Int) : (srt n U).Perm (U ++ List.replicate (n - U.length).toNat 0) := List.mergeSort_perm _ _
theorem rep_sorted (k : Nat) : (List.replicate k (0 : Int)).Pairwise (· ≤ ·) := by
  induction k with
  | zero => exact List.Pairwise.nil
  | succ k ih =>
    rw [List.replicate_succ, List.pairwise_cons]
    exact ⟨fun x hx => by rw [(List.mem_replicate.1 hx).2]; exact Int.le_refl _, ih⟩
theorem lev_expand (n : Int) (U : List Int) : Lev.expand (lev n U) = srt n U := by
  unfold lev
  split
  · rename_i h
    obtain rfl : U = [] := List.eq_nil_of_length_eq_zero h.1
    refine sorted_unique ?_ ?_ (srt_sorted n [])
    · refine List.Perm.trans ?_ (srt_is_perm n []).symm
      simp [Lev.expand]
    · simp only [Lev.expand, List.flatMap_cons, List.flatMap_nil, List.append_nil]
      exact rep_sorted _
  · exact (Lev.runs_ok _).2
theorem lev_asc (n : Int) (U : List Int) : ((lev n U).map (·.1)).Pairwise (· < ·) := by
  unfold lev
  split
  · simp
  · exact (Lev.runs_asc _ (srt_sorted n U)).1
/-- The model's array: the used ones, then zeros. -/
def allF (f : Nat → Int) (m : Nat) : Nat → Int := fun i => if i < m then f i else 0
theorem lst_all (f : Nat → Int) (m z : Nat) : lst (allF f m) (m + z) = lst f m ++ List.replicate z 0 := by
  apply List.ext_getElem?
  intro j
  by_cases h : j < m + z
  · rw [lst_get _ _ _ h]
    by_cases h' : j < m
    · rw [List.getElem?_append_left (by rw [lst_length]; exact h'), lst_get _ _ _ h', allF, if_pos h']
    · rw [List.getElem?_append_right (by rw [lst_length]; omega), lst_length, allF, if_neg h', List.getElem?_replicate, if_pos (by omega)]
  · rw [List.getElem?_eq_none (by rw [lst_length]; omega), List.getElem?_eq_none (by simp [lst_length]; omega)]
/-- What the model sorts is what the levels sort. -/
theorem want_srt {n : Int} {f s : Nat → Int} {m N : Nat} (hN : N = m + (n - m).toNat) (h : (seg s 0 N).Perm (seg (allF f m) 0 N) ∧ (seg s 0 N).Pairwise (· ≤ ·)) : lst s N = srt n (lst f m) := by
  refine sorted_unique ?_ (by rw [lst_seg]; exact h.2) (srt_sorted _ _)
  rw [lst_seg]
  refine h.1.trans ?_
  rw [← lst_seg, hN, lst_all]
  have := srt_is_perm n (lst f m)
  rw [lst_length] at this
  exact this.symm

theorem clone_own2 (a : Option Addr) (n cap : Nat) (f : Nat → Int) (w : World) (hn : n ≤ 1048576) (h : Own w a n f) (hnil : a = none → n = 0 ∧ cap = 0) :
    Calls Try.prog 7 #[.slice a n cap] w fun e w' => ∃ a', e = .returned (.slice a' n n) ∧ Below w.heap.size w w' ∧ ((a' = none ∧ n = 0) ∨ (a' = some ⟨w.heap.size, 0, none⟩ ∧ w'.rowIs w.heap.size 2 n (fun i => .int .i64 (f i)))) := by
  cases a with
  | none =>
    obtain ⟨rfl, rfl⟩ := hnil rfl
    refine (clone_nil w).mono ?_
    rintro e w' ⟨rfl, rfl⟩
    exact ⟨none, rfl, Below.refl _ _, .inl ⟨rfl, rfl⟩⟩
  | some x =>
    have hx0 : 0 < n → x.block < w.heap.size := fun h0 => by
      rcases h with h | ⟨y, hy, hx, _⟩
      · omega
      · obtain rfl := Option.some.inj hy; exact hx
    have hc : Rd w x n f := by
      rcases h with h | ⟨y, hy, _, hc⟩
      · intro i hi; omega
      · obtain rfl := Option.some.inj hy; exact hc
    refine (clone_some x n cap f w hn hc hx0).mono ?_
    rintro e w' ⟨rfl, hr, hb, _⟩
    exact ⟨_, rfl, hb, .inr ⟨rfl, hr⟩⟩
/-- A clone: nil, or a new row. -/
def Cl (w : World) (b : Nat) (a : Option Addr) (n : Nat) (f : Nat → Int) : Prop := (a = none ∧ n = 0) ∨ (a = some ⟨b, 0, none⟩ ∧ w.rowIs b 2 n (fun i => .int .i64 (f i)))
theorem Cl.own {w : World} {b n : Nat} {a : Option Addr} {f : Nat → Int} (h : Cl w b a n f) : Own w a n f := by
  rcases h with ⟨_, h⟩ | ⟨rfl, h⟩
  · exact .inl h
  · exact own_row h
theorem Cl.nil {w : World} {b n : Nat} {a : Option Addr} {f : Nat → Int} (h : Cl w b a n f) : a = none → n = 0 ∧ n = 0 := fun e => by
  rcases h with ⟨_, h⟩ | ⟨h', _⟩
  · exact ⟨h, h⟩
  · rw [h'] at e; cases e
theorem Cl.src {w : World} {b n : Nat} {a : Option Addr} {f : Nat → Int} (h : Cl w b a n f) : Src w a n n (lst f n) :=
  src_of (b := b) (by
    rcases h with ⟨_, h⟩ | h
    · exact .inl h
    · exact .inr h)
theorem Cl.moved {w w' : World} {b n : Nat} {a : Option Addr} {f : Nat → Int} {row : Option Nat} (h : Cl w b a n f) (hg : w.grownBy w' row) (hne : b < w.heap.size → some b ≠ row) : Cl w' b a n f := by
  rcases h with h | ⟨h1, h2⟩
  · exact .inl h
  · exact .inr ⟨h1, h2.of_block (hg.block b h2.lt (hne h2.lt))⟩
theorem Cl.blk {w : World} {b n : Nat} {a : Option Addr} {f : Nat → Int} (h : Cl w b a n f) (c k : Nat) (hk : (Value.slice a 0 c).ownBlock = some k) : k = b ∧ b < w.heap.size := by
  rcases h with ⟨rfl, _⟩ | ⟨rfl, h⟩
  · simp [Value.ownBlock] at hk
  · simp [Value.ownBlock] at hk
    exact ⟨hk.symm, h.lt⟩
theorem owns_of_row {w : World} {B b n : Nat} {f : Nat → Int} (h : w.rowIs b 2 n (fun i => .int .i64 (f i))) (hB : B ≤ b) (hn : n ≤ 1048576) : w.ownsRow B 2 1 (.slice (some ⟨b, 0, none⟩) n n) n ((lst f n).map (Value.int .i64)) := by
  obtain ⟨c, hb, hc, hcc⟩ := h
  refine ⟨by simp [lst_length], .inr ⟨b, n, c, rfl, hB, hb, Nat.le_refl _, by unfold maxLen; omega, by omega, ?_⟩⟩
  apply List.ext_getElem?
  intro j
  rw [List.getElem?_map]
  by_cases hj : j < n
  · rw [List.getElem?_take_of_lt (by omega), Array.getElem?_toList, hcc j hj, lst_get _ _ _ hj]; rfl
  · rw [List.getElem?_eq_none (by rw [List.length_take]; omega), List.getElem?_eq_none (by rw [lst_length]; omega)]; rfl
theorem Cl.owns {w : World} {B b n : Nat} {a : Option Addr} {f : Nat → Int} (h : Cl w b a n f) (hB : B ≤ b) (hn : n ≤ 1048576) : w.ownsRow B 2 1 (.slice a n n) n ((lst f n).map (Value.int .i64)) := by
  rcases h with ⟨rfl, rfl⟩ | ⟨rfl, h⟩
  · exact World.ownsRow_nil _ _ _ _
  · exact owns_of_row h hB hn
theorem own_of_owns {w : World} {B : Nat} {a : Option Addr} {c : Nat} {l : List Int} (h : w.ownsRow B 2 1 (.slice a l.length c) l.length (l.map (Value.int .i64))) (f : Nat → Int) (hf : lst f l.length = l) : Own w a l.length f := by
  rcases Nat.eq_zero_or_pos l.length with h0 | h0
  · exact .inl h0
  · obtain ⟨g, c', hv, _, hlt⟩ := h.form h0
    cases hv
    refine .inr ⟨_, rfl, hlt, fun i hi => ?_⟩
    rw [add_zero_none, h.cellAt i (by omega), List.getElem?_map]
    have := lst_get f l.length i hi
    rw [hf] at this
    rw [this]; rfl

set_option maxHeartbeats 400000 in
theorem bytes6_no (n : Int) (x1 x2 : Option Addr) (m1 m2 c1 c2 : Nat) (w : World) (h1 : m1 ≤ 9223372036854775807) (h2 : m2 ≤ 9223372036854775807) (h : ¬ m1 + m2 ≤ 1048576) :
    Calls Try.prog 6 #[.int .i64 n, .slice x1 m1 c1, .slice x2 m2 c2] w fun e w' => e = .returned (.bool false) ∧ w' = w := by
  go_enter Try.func6, Try.ntmps6
  go_wp2
  all_goals first | (go_ret; exact ⟨rfl, rfl⟩) | omega
set_option maxHeartbeats 400000 in
theorem bytes6_yes (n : Int) (x1 x2 : Option Addr) (m1 m2 c1 c2 : Nat) (w : World) (h : m1 + m2 ≤ 1048576) :
    Calls Try.prog 6 #[.int .i64 n, .slice x1 m1 c1, .slice x2 m2 c2] w fun e w' => e = .returned (.bool true) ∧ w' = w := by
  go_enter Try.func6, Try.ntmps6
  go_wp2
  go_ret
  exact ⟨rfl, rfl⟩
set_option maxRecDepth 100000 in
set_option maxHeartbeats 1600000 in
/-- The early ways out. -/
theorem matA (n : Int) (x1 x2 : Option Addr) (m t c1 c2 : Nat) (w : World) (h1 : m ≤ 9223372036854775807) (h2 : t ≤ 9223372036854775807) (h : ¬ m ≤ 131072 ∨ ¬ t ≤ 131072 ∨ 65536 < n ∨ n < -65536 ∨ (m ≤ 131072 ∧ t ≤ 131072 ∧ -65536 ≤ n ∧ n ≤ 65536 ∧ 131072 < m + t + n.toNat)) :
    Calls Try.prog 3 #[.int .i64 n, .slice x1 m c1, .slice x2 t c2] w fun e w' => e = .returned (.bool true) ∧ w' = w := by
  by_cases g1 : m + t ≤ 1048576
  · by_cases g2 : m ≤ 131072
    · by_cases g2' : t ≤ 131072
      · by_cases g3 : 65536 < n
        · go_enter Try.func3, Try.ntmps3
          go_wp2_with (go_at_call 6; refine (bytes6_yes n x1 x2 m t c1 c2 _ g1).mono ?_; rintro e w' ⟨rfl, rfl⟩)
          go_ret
          exact ⟨rfl, rfl⟩
        · by_cases g4 : n < -65536
          · go_enter Try.func3, Try.ntmps3
            go_wp2_with (go_at_call 6; refine (bytes6_yes n x1 x2 m t c1 c2 _ g1).mono ?_; rintro e w' ⟨rfl, rfl⟩)
            go_ret
            exact ⟨rfl, rfl⟩
          · have g5 : 131072 < m + t + n.toNat := by omega
            by_cases g6 : 0 < n
            · go_enter Try.func3, Try.ntmps3
              go_wp2_with (go_at_call 6; refine (bytes6_yes n x1 x2 m t c1 c2 _ g1).mono ?_; rintro e w' ⟨rfl, rfl⟩)
              go_ret
              exact ⟨rfl, rfl⟩
            · have g7 : 131072 < m + t := by omega
              go_enter Try.func3, Try.ntmps3
              go_wp2_with (go_at_call 6; refine (bytes6_yes n x1 x2 m t c1 c2 _ g1).mono ?_; rintro e w' ⟨rfl, rfl⟩)
              go_ret
              exact ⟨rfl, rfl⟩
      · go_enter Try.func3, Try.ntmps3
        go_wp2_with (go_at_call 6; refine (bytes6_yes n x1 x2 m t c1 c2 _ g1).mono ?_; rintro e w' ⟨rfl, rfl⟩)
        go_ret
        exact ⟨rfl, rfl⟩
    · go_enter Try.func3, Try.ntmps3
      go_wp2_with (go_at_call 6; refine (bytes6_yes n x1 x2 m t c1 c2 _ g1).mono ?_; rintro e w' ⟨rfl, rfl⟩)
      go_ret
      exact ⟨rfl, rfl⟩
  · go_enter Try.func3, Try.ntmps3
    go_wp2_with (go_at_call 6; refine (bytes6_no n x1 x2 m t c1 c2 _ h1 h2 g1).mono ?_; rintro e w' ⟨rfl, rfl⟩)
    go_ret
    exact ⟨rfl, rfl⟩
end Go.Proofs.Qxb6602950a
