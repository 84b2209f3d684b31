/- WORK: memory words; zzB1cloneStrings; zzBytes. -/
import Derived.Test.Qxb6603579aProg
import Derived.WalkKit
import Derived.WalkSpells
import Derived.WalkLawsBesides
import Derived.Deep.OwnRows
namespace Go.Proofs.Qxb6603579a
open Go.RowKit

theorem info9 : (Try.prog.info? 9).map (fun i => (i.zero, i.size, i.bytes)) = some (some (.string ByteArray.empty), 1, 16) := by kernel_rfl
theorem add_block (x : Addr) (k : Nat) : (x.add k).block = x.block := by unfold Addr.add; split <;> rfl
theorem cell_lt {w : World} {x : Addr} {v : Value} (h : w.cell? x = some v) : x.block < w.heap.size := by
  by_cases hb : x.block < w.heap.size
  · exact hb
  · have e : w.heap[x.block]? = none := Array.getElem?_eq_none (by omega)
    simp [World.cell?, e] at h
theorem add_zero_none (b k : Nat) : (⟨b, 0, none⟩ : Addr).add k = ⟨b, k, none⟩ := by
  unfold Addr.add; split
  · rename_i h; rw [h]
  · simp
/-- A row of strings that may be read. -/
def Rd (w : World) (x : Addr) (n : Nat) (f : Nat → ByteArray) : Prop := ∀ i, i < n → w.cell? (x.add i) = some (.string (f i))
def Own (w : World) (a : Option Addr) (n : Nat) (f : Nat → ByteArray) : Prop := n = 0 ∨ ∃ x, a = some x ∧ x.block < w.heap.size ∧ Rd w x n f
theorem Own.below {w w' : World} {a : Option Addr} {n : Nat} {f : Nat → ByteArray} (h : Own w a n f) (hb : Below w.heap.size w w') : Own w' a n f := by
  rcases h with h | ⟨x, rfl, hx, hc⟩
  · exact .inl h
  · exact .inr ⟨x, rfl, Nat.lt_of_lt_of_le hx hb.size, fun i hi => (hb.cell (by rw [add_block]; exact hx)).trans (hc i hi)⟩
/-- A clone: no element, or a new row. -/
def Cl (w : World) (b : Nat) (a : Option Addr) (n : Nat) (f : Nat → ByteArray) : Prop := n = 0 ∨ (a = some ⟨b, 0, none⟩ ∧ w.rowIs b 9 n (fun i => .string (f i)))
theorem Cl.below {w w' : World} {b n : Nat} {a : Option Addr} {f : Nat → ByteArray} (h : Cl w b a n f) (hb : Below w.heap.size w w') : Cl w' b a n f := by
  rcases h with h | ⟨rfl, h⟩
  · exact .inl h
  · exact .inr ⟨rfl, h.of_block (hb.block b h.lt)⟩

set_option maxHeartbeats 400000 in
theorem clone_nil (w : World) : Calls Try.prog 6 #[.slice none 0 0] w fun e w' => e = .returned (.slice none 0 0) ∧ w' = w := by
  have heq := fun w => Lib.run_eql_slice_nil (P := Try.prog) w 22 9 none 0 0 0 0 Try.underlying22
  go_enter Try.func6, Try.ntmps6
  go_wp2
  go_ret
  exact ⟨rfl, rfl⟩
theorem row_step {wr : World} {b n k : Nat} {f : Nat → ByteArray} (h : wr.rowIs b 9 n (fun j => .string (if j < k then f j else ByteArray.empty))) :
    (wr.setCell ⟨b, k, none⟩ (.string (f k))).rowIs b 9 n (fun j => .string (if j < k + 1 then f j else ByteArray.empty)) := by
  refine (h.set k (.string (f k))).congr (fun j hj => ?_)
  by_cases e : j = k
  · subst e; rw [if_pos rfl, if_pos (by omega)]
  · rw [if_neg e]
    by_cases e2 : j < k
    · rw [if_pos e2, if_pos (by omega)]
    · rw [if_neg e2, if_neg (by omega)]
set_option maxHeartbeats 400000 in
theorem clone_some (x : Addr) (n cap : Nat) (f : Nat → ByteArray) (w : World) (hn : n ≤ 1048576) (hc : Rd w x n f) (hx0 : 0 < n → x.block < w.heap.size) :
    Calls Try.prog 6 #[.slice (some x) n cap] w fun e w' => e = .returned (.slice (some ⟨w.heap.size, 0, none⟩) n n) ∧ w'.rowIs w.heap.size 9 n (fun i => .string (f i)) ∧ Below w.heap.size w w' := by
  have heq := fun w => Lib.run_eql_slice_nil (P := Try.prog) w 22 9 (some x) n cap 0 0 Try.underlying22
  have hmk := run_make_row' (P := Try.prog) 22 9 (.string ByteArray.empty) 16 Try.underlying22 info9 rfl .i64 .i64 n (by omega) (by omega)
  go_enter Try.func6, Try.ntmps6
  go_wp2
  go_loopw [4] (fun i wr => ∃ k : Nat, k ≤ n ∧ i = .int .i64 k ∧ wr.rowIs w.heap.size 9 n (fun j => .string (if j < k then f j else ByteArray.empty)) ∧ Below w.heap.size w wr) (fun i _ => n - (intOf i).toNat)
  case atStart =>
    refine ⟨0, Nat.zero_le _, rfl, ?_, (Below.refl _ _).alloc (Nat.le_refl _) _⟩
    exact (World.rowIs_made w (.string ByteArray.empty) n 9).congr (fun i _ => by simp)
  case round =>
    obtain ⟨k, hk, rfl, hrow, hb⟩ := hrel
    by_cases hlt : k < n
    · have hx := hx0 (by omega)
      have hcell : wr.cell? (x.add k) = some (.string (f k)) := (hb.cell (p := x.add k) (by rw [add_block]; exact hx)).trans (hc k hlt)
      have hfz := hrow.frozen k
      obtain ⟨v0, hv0⟩ : ∃ v0, wr.cell? ⟨w.heap.size, k, none⟩ = some (.string v0) := ⟨_, hrow.cell hlt⟩
      have HW : Hid _ := And.intro (row_step hrow) (show Below w.heap.size w (wr.setCell ⟨w.heap.size, k, none⟩ (.string (f k))) from hb.setCell (Nat.le_refl _) _)
      clear hrow
      go_wp2
      go_roundw
      case rel => exact ⟨k + 1, by omega, by go_num, HW.out⟩
      case measure => simp [intOf]; omega
    · have hkn : n = k := by omega
      subst hkn
      have rr : wr.rowIs w.heap.size 9 n (fun i => .string (f i)) := hrow.congr (fun j hj => by rw [if_pos hj])
      clear hrow
      go_wp2
      go_ret
      exact ⟨rfl, rr, hb⟩
theorem clone_own (a : Option Addr) (n cap : Nat) (f : Nat → ByteArray) (w : World) (hn : n ≤ 1048576) (h : Own w a n f) (hnil : a = none → n = 0 ∧ cap = 0) :
    Calls Try.prog 6 #[.slice a n cap] w fun e w' => ∃ a', e = .returned (.slice a' n n) ∧ Below w.heap.size w w' ∧ Cl w' w.heap.size a' n f := by
  cases a with
  | none =>
    obtain ⟨rfl, rfl⟩ := hnil rfl
    refine (clone_nil w).mono ?_
    rintro e w' ⟨rfl, rfl⟩
    exact ⟨none, rfl, Below.refl _ _, .inl rfl⟩
  | some x =>
    have hx0 : 0 < n → x.block < w.heap.size := fun h0 => by
      rcases h with h | ⟨y, hy, hx, _⟩
      · omega
      · obtain rfl := Option.some.inj hy; exact hx
    have hc : Rd w x n f := by
      rcases h with h | ⟨y, hy, _, hc⟩
      · intro i hi; omega
      · obtain rfl := Option.some.inj hy; exact hc
    refine (clone_some x n cap f w hn hc hx0).mono ?_
    rintro e w' ⟨rfl, hr, hb⟩
    exact ⟨_, rfl, hb, .inr ⟨rfl, hr⟩⟩

theorem Cl.own {w : World} {b n : Nat} {a : Option Addr} {f : Nat → ByteArray} (h : Cl w b a n f) : Own w a n f := by
  rcases h with h | ⟨rfl, h⟩
  · exact .inl h
  · exact .inr ⟨_, rfl, h.lt, fun i hi => by rw [add_zero_none]; exact h.cell hi⟩


/-- What the length test tells. -/
def Small (n m : Nat) (f g : Nat → ByteArray) (tok name : ByteArray) : Prop := n ≤ 1048576 ∧ m ≤ 1048576 ∧ tok.size ≤ 1048576 ∧ name.size ≤ 1048576 ∧ (∀ i, i < n → (f i).size ≤ 1048576) ∧ ∀ i, i < m → (g i).size ≤ 1048576

set_option maxHeartbeats 1600000 in
theorem bytes14 (z : Int) (a b : Option Addr) (n c m d : Nat) (f g : Nat → ByteArray) (tok name : ByteArray) (w : World) (h1 : tok.size ≤ 9223372036854775807) (h2 : name.size ≤ 9223372036854775807) (hn : n ≤ 9223372036854775807) (hm : m ≤ 9223372036854775807) (ho : Own w a n f) (hp : Own w b m g) (hf : ∀ i, i < n → (f i).size ≤ 9223372036854775807) (hg : ∀ i, i < m → (g i).size ≤ 9223372036854775807) :
    Calls Try.prog 14 #[.int .i64 z, .slice a n c, .string tok, .string name, .slice b m d] w fun e w' => (e = .returned (.bool false) ∨ (e = .returned (.bool true) ∧ Small n m f g tok name)) ∧ w' = w := by
  by_cases g2 : n ≤ 1048576
  · go_enter Try.func14, Try.ntmps14
    go_wp2
    go_loop [11, 12] (fun z i => ∃ k q : Nat, k ≤ n ∧ q ≤ 1048576 ∧ i = .int .i64 k ∧ z = .int .i64 q ∧ Hid (∀ i, i < k → (f i).size ≤ 1048576)) (fun _ i => n - (intOf i).toNat)
    case atStart => exact ⟨0, n, Nat.zero_le _, g2, rfl, by go_num, fun i hi => by omega⟩
    case round =>
      obtain ⟨k, q, hk, hq, rfl, rfl, HS⟩ := hrel
      by_cases hlt : k < n
      · rcases ho with ho | ⟨x, rfl, hx, hc⟩
        · omega
        have e1 := hc k hlt
        have e2 := hf k hlt
        have HK : Hid (∀ s, f k = s → s.size ≤ 1048576 → ∀ i, i < k + 1 → (f i).size ≤ 1048576) := by
          intro s hs hz i hi
          by_cases e : i = k
          · rw [e, hs]; exact hz
          · exact HS.out i (by omega)
        generalize hs : f k = s at e1 e2
        have Hs : Hid _ := hs
        clear hs
        go_wp2
        · go_ret
          exact ⟨.inl rfl, rfl⟩
        · go_ret
          exact ⟨.inl rfl, rfl⟩
        · go_round
          case rel => exact ⟨k + 1, q + s.size, by omega, by omega, by go_num, by go_num, HK.out s Hs.out (by omega)⟩
          case measure => simp [intOf]; omega
      · have HN : Hid (∀ i, i < n → (f i).size ≤ 1048576) := fun i hi => HS.out i (by omega)
        clear HS hf ho
        by_cases g3 : q + tok.size ≤ 1048576
        · by_cases g4 : q + tok.size + name.size ≤ 1048576
          · by_cases g5 : q + tok.size + name.size + m ≤ 1048576
            · go_wp2
              go_loop [11, 13] (fun z i => ∃ k' q' : Nat, k' ≤ m ∧ q' ≤ 1048576 ∧ i = .int .i64 k' ∧ z = .int .i64 q' ∧ Hid (∀ i, i < k' → (g i).size ≤ 1048576)) (fun _ i => m - (intOf i).toNat)
              case atStart => exact ⟨0, q + tok.size + name.size + m, Nat.zero_le _, g5, rfl, by go_num, fun i hi => by omega⟩
              case round =>
                obtain ⟨k', q', hk', hq', rfl, rfl, HS'⟩ := hrel
                by_cases hlt' : k' < m
                · rcases hp with hp | ⟨x, rfl, hx, hc⟩
                  · omega
                  have e1 := hc k' hlt'
                  have e2 := hg k' hlt'
                  have HK : Hid (∀ s, g k' = s → s.size ≤ 1048576 → ∀ i, i < k' + 1 → (g i).size ≤ 1048576) := by
                    intro s hs hz i hi
                    by_cases e : i = k'
                    · rw [e, hs]; exact hz
                    · exact HS'.out i (by omega)
                  generalize hs : g k' = s at e1 e2
                  have Hs : Hid _ := hs
                  clear hs
                  go_wp2
                  · go_ret
                    exact ⟨.inl rfl, rfl⟩
                  · go_ret
                    exact ⟨.inl rfl, rfl⟩
                  · go_round
                    case rel => exact ⟨k' + 1, q' + s.size, by omega, by omega, by go_num, by go_num, HK.out s Hs.out (by omega)⟩
                    case measure => simp [intOf]; omega
                · go_wp2
                  go_ret
                  exact ⟨.inr ⟨rfl, ⟨g2, by omega, by omega, by omega, HN.out, fun i hi => HS'.out i (by omega)⟩⟩, rfl⟩
            · go_wp2
              all_goals
                go_ret
                exact ⟨.inl rfl, rfl⟩
          · go_wp2
            all_goals
              go_ret
              exact ⟨.inl rfl, rfl⟩
        · go_wp2
          all_goals
            go_ret
            exact ⟨.inl rfl, rfl⟩
  · go_enter Try.func14, Try.ntmps14
    go_wp2
    go_ret
    exact ⟨.inl rfl, rfl⟩
end Go.Proofs.Qxb6603579a
