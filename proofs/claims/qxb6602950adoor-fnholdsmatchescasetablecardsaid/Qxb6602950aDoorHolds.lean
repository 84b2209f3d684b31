/- WORK: slices.Index, slices.Contains, zzMember, holds at the four plain operators. -/
import Derived.Test.Qxb6602950aDoorMem
import Derived.Lib.SlicesS
namespace Go.Proofs.Qxb6602950aDoor
open Go.RowKit

/-- v is among f 0, .., f (n - 1). -/
def memS (f : Nat → ByteArray) (n : Nat) (v : ByteArray) : Bool := decide (∃ i, i < n ∧ f i = v)
theorem memS_yes {f : Nat → ByteArray} {n k : Nat} {v : ByteArray} (h : k < n) (e : (v.toList == (f k).toList) = true) : memS f n v = true :=
  decide_eq_true ⟨k, h, ((Lib.bytes_beq_iff _ _).1 e).symm⟩
theorem memS_yes' {f : Nat → ByteArray} {n k : Nat} {v : ByteArray} (h : k < n) (e : ((f k).toList == v.toList) = true) : memS f n v = true :=
  decide_eq_true ⟨k, h, (Lib.bytes_beq_iff _ _).1 e⟩
theorem memS_no {f : Nat → ByteArray} {n : Nat} {v : ByteArray} (h : ∀ i, i < n → f i ≠ v) : memS f n v = false :=
  decide_eq_false (fun ⟨i, hi, e⟩ => h i hi e)
theorem no_step {f : Nat → ByteArray} {k : Nat} {v : ByteArray} (h : ∀ i, i < k → f i ≠ v) (e : (v.toList == (f k).toList) = false) : ∀ i, i < k + 1 → f i ≠ v := by
  intro i hi he
  by_cases h' : i = k
  · subst h'
    rw [he, (Lib.bytes_beq_iff v v).2 rfl] at e
    cases e
  · exact h i (by omega) he
theorem no_step' {f : Nat → ByteArray} {k : Nat} {v : ByteArray} (h : ∀ i, i < k → f i ≠ v) (e : ((f k).toList == v.toList) = false) : ∀ i, i < k + 1 → f i ≠ v := by
  intro i hi he
  by_cases h' : i = k
  · subst h'
    rw [he, (Lib.bytes_beq_iff v v).2 rfl] at e
    cases e
  · exact h i (by omega) he

set_option maxHeartbeats 400000 in
theorem index_any (a : Option Addr) (n c : Nat) (f : Nat → ByteArray) (v : ByteArray) (w : World) (hn : n ≤ 1048576) (ho : Own w a n f) :
    Calls Tryd.prog 20 #[.slice a n c, .string v] w fun e w' => (∃ r : Int, e = .returned (.int .i64 r) ∧ (decide (0 ≤ r) = memS f n v)) ∧ w' = w := by
  go_enter Tryd.func20, Tryd.ntmps20
  go_wp2
  go_loop [8] (fun i => ∃ k : Nat, k ≤ n ∧ i = .int .i64 k ∧ Hid (∀ i, i < k → f i ≠ v)) (fun i => n - (intOf i).toNat)
  case atStart => exact ⟨0, Nat.zero_le _, rfl, fun i hi => by omega⟩
  case round =>
    obtain ⟨k, hk, rfl, HS⟩ := hrel
    by_cases hlt : k < n
    · rcases ho with ho | ⟨x, rfl, hx, hc⟩
      · omega
      have e1 := hc k hlt
      go_wp2
      · have he : (v.toList == (f k).toList) = true := by assumption
        go_ret
        exact ⟨⟨k, rfl, by rw [memS_yes hlt he]; exact decide_eq_true (by omega)⟩, rfl⟩
      · have he : (v.toList == (f k).toList) = false := by assumption
        go_round
        case rel => exact ⟨k + 1, by omega, by go_num, no_step HS.out he⟩
        case measure => simp [intOf]; omega
    · go_wp2
      go_ret
      exact ⟨⟨-1, rfl, by rw [memS_no (fun i hi => HS.out i (by omega))]; rfl⟩, rfl⟩
set_option maxHeartbeats 400000 in
theorem contains_any (a : Option Addr) (n c : Nat) (f : Nat → ByteArray) (v : ByteArray) (w : World) (hn : n ≤ 1048576) (ho : Own w a n f) :
    Calls Tryd.prog 18 #[.slice a n c, .string v] w fun e w' => e = .returned (.bool (memS f n v)) ∧ w' = w := by
  generalize hm : memS f n v = m
  have HM : Hid _ := hm
  clear hm
  go_enter Tryd.func18, Tryd.ntmps18
  go_wp2_with fail
  refine (index_any a n c f v w hn ho).mono ?_
  rintro e w' ⟨⟨r, rfl, hr⟩, rfl⟩
  rw [HM.out] at hr
  go_wp2
  go_ret
  exact ⟨rfl, rfl⟩
set_option maxHeartbeats 400000 in
theorem member_any (a : Option Addr) (n c : Nat) (f : Nat → ByteArray) (v : ByteArray) (w : World) (hn : n ≤ 1048576) (ho : Own w a n f) :
    Calls Tryd.prog 16 #[.slice a n c, .string v] w fun e w' => e = .returned (.bool (memS f n v)) ∧ w' = w := by
  go_enter Tryd.func16, Tryd.ntmps16
  go_wp2
  go_loop [5] (fun i => ∃ k : Nat, k ≤ n ∧ i = .int .i64 k ∧ Hid (∀ i, i < k → f i ≠ v)) (fun i => n - (intOf i).toNat)
  case atStart => exact ⟨0, Nat.zero_le _, rfl, fun i hi => by omega⟩
  case round =>
    obtain ⟨k, hk, rfl, HS⟩ := hrel
    by_cases hlt : k < n
    · rcases ho with ho | ⟨x, rfl, hx, hc⟩
      · omega
      have e1 := hc k hlt
      go_wp2
      · have he : ((f k).toList == v.toList) = true := by assumption
        go_ret
        exact ⟨by rw [memS_yes' hlt he]; rfl, rfl⟩
      · have he : ((f k).toList == v.toList) = false := by assumption
        go_round
        case rel => exact ⟨k + 1, by omega, by go_num, no_step' HS.out he⟩
        case measure => simp [intOf]; omega
    · go_wp2
      go_ret
      exact ⟨by rw [memS_no (fun i hi => HS.out i (by omega))]; rfl, rfl⟩

/-- What holds answers at the operators 1 to 4. -/
def h4 (op : Int) (m ok : Bool) : Bool := if op = 1 then (ok && m) else if op = 2 then (!ok || !m) else if op = 3 then ok else !ok

set_option maxHeartbeats 1600000 in
theorem holds4 (key value : ByteArray) (op : Int) (a : Option Addr) (n c : Nat) (f : Nat → ByteArray) (ok : Bool) (w : World) (hn : n ≤ 1048576) (ho : Own w a n f) (hop : op = 1 ∨ op = 2 ∨ op = 3 ∨ op = 4) :
    Calls Tryd.prog 15 #[.agg #[.string key, .int .i64 op, .slice a n c], .string value, .bool ok] w fun e w' => e = .returned (.bool (h4 op (memS f n value) ok)) ∧ Below w.heap.size w w' := by
  have ho1 : Own (w.alloc (.cells #[.string key, .int .i64 op, .slice a n c] 29)) a n f := ho.below ((Below.refl _ _).alloc (Nat.le_refl _) _)
  have HO : Hid _ := ho1
  clear ho ho1
  rcases hop with rfl | rfl | rfl | rfl
  · cases ok
    · go_enter Tryd.func15, Tryd.ntmps15
      go_wp2
      go_ret
      exact ⟨by simp [h4], (Below.refl _ _).alloc (Nat.le_refl _) _⟩
    · go_enter Tryd.func15, Tryd.ntmps15
      go_wp2_with fail
      refine (contains_any a n c f value _ hn HO.out).mono ?_
      rintro e w' ⟨rfl, rfl⟩
      go_wp2
      go_ret
      exact ⟨by simp [h4], (Below.refl _ _).alloc (Nat.le_refl _) _⟩
  · cases ok
    · go_enter Tryd.func15, Tryd.ntmps15
      go_wp2
      go_ret
      exact ⟨by simp [h4], (Below.refl _ _).alloc (Nat.le_refl _) _⟩
    · go_enter Tryd.func15, Tryd.ntmps15
      go_wp2_with fail
      refine (contains_any a n c f value _ hn HO.out).mono ?_
      rintro e w' ⟨rfl, rfl⟩
      go_wp2
      go_ret
      exact ⟨by simp [h4], (Below.refl _ _).alloc (Nat.le_refl _) _⟩
  · go_enter Tryd.func15, Tryd.ntmps15
    go_wp2
    go_ret
    exact ⟨by simp [h4], (Below.refl _ _).alloc (Nat.le_refl _) _⟩
  · go_enter Tryd.func15, Tryd.ntmps15
    go_wp2
    go_ret
    exact ⟨by simp [h4], (Below.refl _ _).alloc (Nat.le_refl _) _⟩
set_option maxHeartbeats 400000 in
theorem zzholds4 (key value : ByteArray) (op : Int) (a : Option Addr) (n c : Nat) (f : Nat → ByteArray) (ok : Bool) (w : World) (hn : n ≤ 1048576) (ho : Own w a n f) (hop : op = 1 ∨ op = 2 ∨ op = 3 ∨ op = 4) :
    Calls Tryd.prog 9 #[.agg #[.string key, .int .i64 op, .slice a n c], .string value, .bool ok] w fun e w' => e = .returned (.bool (h4 op (memS f n value) ok)) ∧ Below w.heap.size w w' := by
  have ho1 : Own (w.alloc (.cells #[.string key, .int .i64 op, .slice a n c] 29)) a n f := ho.below ((Below.refl _ _).alloc (Nat.le_refl _) _)
  have HO : Hid _ := ho1
  have HP : Hid _ := hop
  clear ho ho1 hop
  go_enter Tryd.func9, Tryd.ntmps9
  go_wp2_with fail
  refine (holds4 key value op a n c f ok _ hn HO.out HP.out).mono ?_
  rintro e w' ⟨rfl, hb⟩
  go_wp2
  go_ret
  exact ⟨rfl, ((Below.refl _ _).alloc (Nat.le_refl _) _).trans (hb.mono (by simp))⟩
end Go.Proofs.Qxb6602950aDoor
