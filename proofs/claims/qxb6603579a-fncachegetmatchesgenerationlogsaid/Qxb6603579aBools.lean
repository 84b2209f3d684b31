/- WORK: zzB1cloneBools; the length test of FnCacheGetMatchesGenerationLog. -/
import Derived.Test.Qxb6603579aClone
namespace Go.Proofs.Qxb6603579a
open Go.RowKit
theorem info4 : (Try.prog.info? 4).map (fun i => (i.zero, i.size, i.bytes)) = some (some (.bool false), 1, 1) := by kernel_rfl
/-- A row of bools that may be read. -/
def RdB (w : World) (x : Addr) (n : Nat) (f : Nat → Bool) : Prop := ∀ i, i < n → w.cell? (x.add i) = some (.bool (f i))
def OwnB (w : World) (a : Option Addr) (n : Nat) (f : Nat → Bool) : Prop := n = 0 ∨ ∃ x, a = some x ∧ x.block < w.heap.size ∧ RdB w x n f
theorem OwnB.below {w w' : World} {a : Option Addr} {n : Nat} {f : Nat → Bool} (h : OwnB w a n f) (hb : Below w.heap.size w w') : OwnB w' a n f := by
  rcases h with h | ⟨x, rfl, hx, hc⟩
  · exact .inl h
  · exact .inr ⟨x, rfl, Nat.lt_of_lt_of_le hx hb.size, fun i hi => (hb.cell (by rw [add_block]; exact hx)).trans (hc i hi)⟩
/-- A clone: no element, or a new row. -/
def ClB (w : World) (b : Nat) (a : Option Addr) (n : Nat) (f : Nat → Bool) : Prop := n = 0 ∨ (a = some ⟨b, 0, none⟩ ∧ w.rowIs b 4 n (fun i => .bool (f i)))
theorem ClB.below {w w' : World} {b n : Nat} {a : Option Addr} {f : Nat → Bool} (h : ClB w b a n f) (hb : Below w.heap.size w w') : ClB w' b a n f := by
  rcases h with h | ⟨rfl, h⟩
  · exact .inl h
  · exact .inr ⟨rfl, h.of_block (hb.block b h.lt)⟩

set_option maxHeartbeats 400000 in
theorem cloneB_nil (w : World) : Calls Try.prog 7 #[.slice none 0 0] w fun e w' => e = .returned (.slice none 0 0) ∧ w' = w := by
  have heq := fun w => Lib.run_eql_slice_nil (P := Try.prog) w 23 4 none 0 0 0 0 Try.underlying23
  go_enter Try.func7, Try.ntmps7
  go_wp2
  go_ret
  exact ⟨rfl, rfl⟩
theorem rowB_step {wr : World} {b n k : Nat} {f : Nat → Bool} (h : wr.rowIs b 4 n (fun j => .bool (if j < k then f j else false))) :
    (wr.setCell ⟨b, k, none⟩ (.bool (f k))).rowIs b 4 n (fun j => .bool (if j < k + 1 then f j else false)) := by
  refine (h.set k (.bool (f k))).congr (fun j hj => ?_)
  by_cases e : j = k
  · subst e; rw [if_pos rfl, if_pos (by omega)]
  · rw [if_neg e]
    by_cases e2 : j < k
    · rw [if_pos e2, if_pos (by omega)]
    · rw [if_neg e2, if_neg (by omega)]
set_option maxHeartbeats 400000 in
theorem cloneB_some (x : Addr) (n cap : Nat) (f : Nat → Bool) (w : World) (hn : n ≤ 1048576) (hc : RdB w x n f) (hx0 : 0 < n → x.block < w.heap.size) :
    Calls Try.prog 7 #[.slice (some x) n cap] w fun e w' => e = .returned (.slice (some ⟨w.heap.size, 0, none⟩) n n) ∧ w'.rowIs w.heap.size 4 n (fun i => .bool (f i)) ∧ Below w.heap.size w w' := by
  have heq := fun w => Lib.run_eql_slice_nil (P := Try.prog) w 23 4 (some x) n cap 0 0 Try.underlying23
  have hmk := run_make_row' (P := Try.prog) 23 4 (.bool false) 1 Try.underlying23 info4 rfl .i64 .i64 n (by omega) (by omega)
  go_enter Try.func7, Try.ntmps7
  go_wp2
  go_loopw [4] (fun i wr => ∃ k : Nat, k ≤ n ∧ i = .int .i64 k ∧ wr.rowIs w.heap.size 4 n (fun j => .bool (if j < k then f j else false)) ∧ Below w.heap.size w wr) (fun i _ => n - (intOf i).toNat)
  case atStart =>
    refine ⟨0, Nat.zero_le _, rfl, ?_, (Below.refl _ _).alloc (Nat.le_refl _) _⟩
    exact (World.rowIs_made w (.bool false) n 4).congr (fun i _ => by simp)
  case round =>
    obtain ⟨k, hk, rfl, hrow, hb⟩ := hrel
    by_cases hlt : k < n
    · have hx := hx0 (by omega)
      have hcell : wr.cell? (x.add k) = some (.bool (f k)) := (hb.cell (p := x.add k) (by rw [add_block]; exact hx)).trans (hc k hlt)
      have hfz := hrow.frozen k
      obtain ⟨v0, hv0⟩ : ∃ v0, wr.cell? ⟨w.heap.size, k, none⟩ = some (.bool v0) := ⟨_, hrow.cell hlt⟩
      have HW : Hid _ := And.intro (rowB_step hrow) (show Below w.heap.size w (wr.setCell ⟨w.heap.size, k, none⟩ (.bool (f k))) from hb.setCell (Nat.le_refl _) _)
      clear hrow
      go_wp2
      go_roundw
      case rel => exact ⟨k + 1, by omega, by go_num, HW.out⟩
      case measure => simp [intOf]; omega
    · have hkn : n = k := by omega
      subst hkn
      have rr : wr.rowIs w.heap.size 4 n (fun i => .bool (f i)) := hrow.congr (fun j hj => by rw [if_pos hj])
      clear hrow
      go_wp2
      go_ret
      exact ⟨rfl, rr, hb⟩
theorem cloneB_own (a : Option Addr) (n cap : Nat) (f : Nat → Bool) (w : World) (hn : n ≤ 1048576) (h : OwnB w a n f) (hnil : a = none → n = 0 ∧ cap = 0) :
    Calls Try.prog 7 #[.slice a n cap] w fun e w' => ∃ a', e = .returned (.slice a' n n) ∧ Below w.heap.size w w' ∧ ClB w' w.heap.size a' n f := by
  cases a with
  | none =>
    obtain ⟨rfl, rfl⟩ := hnil rfl
    refine (cloneB_nil w).mono ?_
    rintro e w' ⟨rfl, rfl⟩
    exact ⟨none, rfl, Below.refl _ _, .inl rfl⟩
  | some x =>
    have hx0 : 0 < n → x.block < w.heap.size := fun h0 => by
      rcases h with h | ⟨y, hy, hx, _⟩
      · omega
      · obtain rfl := Option.some.inj hy; exact hx
    have hc : RdB w x n f := by
      rcases h with h | ⟨y, hy, _, hc⟩
      · intro i hi; omega
      · obtain rfl := Option.some.inj hy; exact hc
    refine (cloneB_some x n cap f w hn hc hx0).mono ?_
    rintro e w' ⟨rfl, hr, hb⟩
    exact ⟨_, rfl, hb, .inr ⟨rfl, hr⟩⟩

theorem ClB.own {w : World} {b n : Nat} {a : Option Addr} {f : Nat → Bool} (h : ClB w b a n f) : OwnB w a n f := by
  rcases h with h | ⟨rfl, h⟩
  · exact .inl h
  · exact .inr ⟨_, rfl, h.lt, fun i hi => by rw [add_zero_none]; exact h.cell hi⟩


/-- What the length test tells. -/
def Small5 (n m p : Nat) (f g : Nat → ByteArray) : Prop := n ≤ 1048576 ∧ m ≤ 1048576 ∧ p ≤ 1048576 ∧ (∀ i, i < n → (f i).size ≤ 1048576) ∧ ∀ i, i < m → (g i).size ≤ 1048576

set_option maxHeartbeats 1600000 in
theorem bytes5 (z : Int) (a b c0 : Option Addr) (n c m d p cp : Nat) (f g : Nat → ByteArray) (w : World) (hn : n ≤ 9223372036854775807) (hm : m ≤ 9223372036854775807) (hp0 : p ≤ 9223372036854775807) (ho : Own w a n f) (hp : Own w b m g) (hf : ∀ i, i < n → (f i).size ≤ 9223372036854775807) (hg : ∀ i, i < m → (g i).size ≤ 9223372036854775807) :
    Calls Try.prog 5 #[.int .i64 z, .slice a n c, .slice b m d, .slice c0 p cp] w fun e w' => (e = .returned (.bool false) ∨ (e = .returned (.bool true) ∧ Small5 n m p f g)) ∧ w' = w := by
  by_cases g2 : n ≤ 1048576
  · go_enter Try.func5, Try.ntmps5
    go_wp2
    go_loop [9, 10] (fun z i => ∃ k q : Nat, k ≤ n ∧ q ≤ 1048576 ∧ i = .int .i64 k ∧ z = .int .i64 q ∧ Hid (∀ i, i < k → (f i).size ≤ 1048576)) (fun _ i => n - (intOf i).toNat)
    case atStart => exact ⟨0, n, Nat.zero_le _, g2, rfl, by go_num, fun i hi => by omega⟩
    case round =>
      obtain ⟨k, q, hk, hq, rfl, rfl, HS⟩ := hrel
      by_cases hlt : k < n
      · rcases ho with ho | ⟨x, rfl, hx, hc⟩
        · omega
        have e1 := hc k hlt
        have e2 := hf k hlt
        have HK : Hid (∀ s, f k = s → s.size ≤ 1048576 → ∀ i, i < k + 1 → (f i).size ≤ 1048576) := by
          intro s hs hz i hi
          by_cases e : i = k
          · rw [e, hs]; exact hz
          · exact HS.out i (by omega)
        generalize hs : f k = s at e1 e2
        have Hs : Hid _ := hs
        clear hs
        go_wp2
        · go_ret
          exact ⟨.inl rfl, rfl⟩
        · go_ret
          exact ⟨.inl rfl, rfl⟩
        · go_round
          case rel => exact ⟨k + 1, q + s.size, by omega, by omega, by go_num, by go_num, HK.out s Hs.out (by omega)⟩
          case measure => simp [intOf]; omega
      · have HN : Hid (∀ i, i < n → (f i).size ≤ 1048576) := fun i hi => HS.out i (by omega)
        clear HS hf ho
        by_cases g5 : q + m ≤ 1048576
        · go_wp2
          go_loop [9, 11] (fun z i => ∃ k' q' : Nat, k' ≤ m ∧ q' ≤ 1048576 ∧ i = .int .i64 k' ∧ z = .int .i64 q' ∧ Hid (∀ i, i < k' → (g i).size ≤ 1048576)) (fun _ i => m - (intOf i).toNat)
          case atStart => exact ⟨0, q + m, Nat.zero_le _, g5, rfl, by go_num, fun i hi => by omega⟩
          case round =>
            obtain ⟨k', q', hk', hq', rfl, rfl, HS'⟩ := hrel
            by_cases hlt' : k' < m
            · rcases hp with hp | ⟨x, rfl, hx, hc⟩
              · omega
              have e1 := hc k' hlt'
              have e2 := hg k' hlt'
              have HK : Hid (∀ s, g k' = s → s.size ≤ 1048576 → ∀ i, i < k' + 1 → (g i).size ≤ 1048576) := by
                intro s hs hz i hi
                by_cases e : i = k'
                · rw [e, hs]; exact hz
                · exact HS'.out i (by omega)
              generalize hs : g k' = s at e1 e2
              have Hs : Hid _ := hs
              clear hs
              go_wp2
              · go_ret
                exact ⟨.inl rfl, rfl⟩
              · go_ret
                exact ⟨.inl rfl, rfl⟩
              · go_round
                case rel => exact ⟨k' + 1, q' + s.size, by omega, by omega, by go_num, by go_num, HK.out s Hs.out (by omega)⟩
                case measure => simp [intOf]; omega
            · by_cases g6 : q' + p ≤ 1048576
              · go_wp2
                go_ret
                exact ⟨.inr ⟨rfl, ⟨g2, by omega, by omega, HN.out, fun i hi => HS'.out i (by omega)⟩⟩, rfl⟩
              · go_wp2
                all_goals
                  go_ret
                  exact ⟨.inl rfl, rfl⟩
        · go_wp2
          all_goals
            go_ret
            exact ⟨.inl rfl, rfl⟩
  · go_enter Try.func5, Try.ntmps5
    go_wp2
    go_ret
    exact ⟨.inl rfl, rfl⟩
end Go.Proofs.Qxb6603579a
