/- WORK: holds at every operator, zzHoldsModel, and the law FnHoldsMatchesCaseTable: its walk. -/
import Derived.Test.Qxb6602950aDoorDec
import Derived.Test.Qxb6602950aDoorNotIn
namespace Go.Proofs.Qxb6602950aDoor
open Go.RowKit

theorem add_z (x : Addr) : x.add 0 = x := by
  unfold Addr.add
  cases x with
  | mk b o e => cases e <;> rfl
/-- How two readings compare at an operator. -/
def cmp (op : Int) : Option Int → Option Int → Bool
  | some x, some y => if op = 5 then decide (y < x) else decide (x < y)
  | _, _ => false

/-- What holds answers at any operator. -/
def hAny (op : Int) (n : Nat) (f : Nat → ByteArray) (value : ByteArray) (ok : Bool) : Bool :=
  if op = 1 ∨ op = 2 ∨ op = 3 ∨ op = 4 then h4 op (memS f n value) ok
  else if op = 5 ∨ op = 6 then (decide (n = 1) && cmp op (rd value.data.toList) (rd (f 0).data.toList))
  else false

set_option maxHeartbeats 1600000 in
theorem holds56 (key value : ByteArray) (op : Int) (a : Option Addr) (c : Nat) (f : Nat → ByteArray) (ok : Bool) (w : World) (ho : Own w a 1 f) (hv : value.size ≤ 1048576) (hf : (f 0).size ≤ 1048576) (he : Errs w) (hop : op = 5 ∨ op = 6) :
    Calls Tryd.prog 15 #[.agg #[.string key, .int .i64 op, .slice a 1 c], .string value, .bool ok] w fun e w' => e = .returned (.bool (cmp op (rd value.data.toList) (rd (f 0).data.toList))) ∧ Below w.heap.size w w' := by
  have hb0 : Below w.heap.size w (w.alloc (.cells #[.string key, .int .i64 op, .slice a 1 c] 29)) := (Below.refl _ _).alloc (Nat.le_refl _) _
  have HO : Hid _ := ho.below hb0
  have HE : Hid _ := he.below hb0
  have HB : Hid _ := hb0
  have HC1 : Hid ((w.alloc (.cells #[.string key, .int .i64 op, .slice a 1 c] 29)).cell? ⟨w.heap.size, 1, none⟩ = some (.int .i64 op)) := by show _ = _; simp
  have HC2 : Hid ((w.alloc (.cells #[.string key, .int .i64 op, .slice a 1 c] 29)).cell? ⟨w.heap.size, 2, none⟩ = some (.slice a 1 c)) := by show _ = _; simp
  clear ho he hb0
  generalize hx : rd value.data.toList = x
  generalize hy : rd (f 0).data.toList = y
  have HX : Hid (rd value.data.toList = x) := hx
  have HY : Hid (rd (f 0).data.toList = y) := hy
  clear hx hy
  rcases hop with rfl | rfl
  · go_enter Tryd.func15, Tryd.ntmps15
    go_wp2_with fail
    refine (parse_any value hv _ HE.out).mono ?_
    rintro e w1 ⟨he, hb1⟩
    rw [HX.out] at he
    have d1 := (hb1.cell (show (⟨w.heap.size, 1, none⟩ : Addr).block < _ by simp)).trans HC1.out
    have d2 := (hb1.cell (show (⟨w.heap.size, 2, none⟩ : Addr).block < _ by simp)).trans HC2.out
    have HE1 : Hid _ := Errs.below HE.out hb1
    have HO1 : Hid _ := Own.below HO.out hb1
    have HB1 : Hid (Below w.heap.size w w1) := HB.out.trans (hb1.mono (by simp))
    have hsz : w.heap.size < w1.heap.size := Nat.lt_of_lt_of_le (by simp) hb1.size
    clear hb1 HE HO HC1 HC2
    rcases he with ⟨v, rfl, rfl⟩ | ⟨rfl, z, N, rfl⟩
    · obtain ⟨x, rfl, hx, hc⟩ : ∃ x, a = some x ∧ x.block < w1.heap.size ∧ Rd w1 x 1 f := by
        rcases HO1.out with h | h
        · omega
        · exact h
      have d3 : w1.cell? x = some (.string (f 0)) := by
        have := hc 0 (by omega)
        rwa [add_z] at this
      have HR : Hid _ := hc
      clear HO1 hc
      go_wp2_with fail
      refine (parse_any (f 0) hf _ HE1.out).mono ?_
      rintro e w2 ⟨he, hb2⟩
      rw [HY.out] at he
      have d4 := (hb2.cell hsz).trans d1
      have HB2 : Hid (Below w.heap.size w w2) := HB1.out.trans (hb2.mono HB1.out.size)
      clear hb2 d1 d2 d3
      rcases he with ⟨u, rfl, rfl⟩ | ⟨rfl, z, N, rfl⟩
      · go_wp2
        all_goals
          go_ret
          refine ⟨?_, HB2.out⟩
          simp only [cmp]
          simp
          try omega
      · go_wp2
        go_ret
        exact ⟨rfl, HB2.out⟩
    · go_wp2
      go_ret
      exact ⟨rfl, HB1.out⟩
  · go_enter Tryd.func15, Tryd.ntmps15
    go_wp2_with fail
    refine (parse_any value hv _ HE.out).mono ?_
    rintro e w1 ⟨he, hb1⟩
    rw [HX.out] at he
    have d1 := (hb1.cell (show (⟨w.heap.size, 1, none⟩ : Addr).block < _ by simp)).trans HC1.out
    have d2 := (hb1.cell (show (⟨w.heap.size, 2, none⟩ : Addr).block < _ by simp)).trans HC2.out
    have HE1 : Hid _ := Errs.below HE.out hb1
    have HO1 : Hid _ := Own.below HO.out hb1
    have HB1 : Hid (Below w.heap.size w w1) := HB.out.trans (hb1.mono (by simp))
    have hsz : w.heap.size < w1.heap.size := Nat.lt_of_lt_of_le (by simp) hb1.size
    clear hb1 HE HO HC1 HC2
    rcases he with ⟨v, rfl, rfl⟩ | ⟨rfl, z, N, rfl⟩
    · obtain ⟨x, rfl, hx, hc⟩ : ∃ x, a = some x ∧ x.block < w1.heap.size ∧ Rd w1 x 1 f := by
        rcases HO1.out with h | h
        · omega
        · exact h
      have d3 : w1.cell? x = some (.string (f 0)) := by
        have := hc 0 (by omega)
        rwa [add_z] at this
      have HR : Hid _ := hc
      clear HO1 hc
      go_wp2_with fail
      refine (parse_any (f 0) hf _ HE1.out).mono ?_
      rintro e w2 ⟨he, hb2⟩
      rw [HY.out] at he
      have d4 := (hb2.cell hsz).trans d1
      have HB2 : Hid (Below w.heap.size w w2) := HB1.out.trans (hb2.mono HB1.out.size)
      clear hb2 d1 d2 d3
      rcases he with ⟨u, rfl, rfl⟩ | ⟨rfl, z, N, rfl⟩
      · go_wp2
        all_goals
          go_ret
          refine ⟨?_, HB2.out⟩
          simp only [cmp]
          simp
          try omega
      · go_wp2
        go_ret
        exact ⟨rfl, HB2.out⟩
    · go_wp2
      go_ret
      exact ⟨rfl, HB1.out⟩

set_option maxHeartbeats 1600000 in
theorem holds_no (key value : ByteArray) (op : Int) (a : Option Addr) (n c : Nat) (ok : Bool) (w : World) (hop : ((op = 5 ∨ op = 6) ∧ n ≠ 1) ∨ (op ≠ 1 ∧ op ≠ 2 ∧ op ≠ 3 ∧ op ≠ 4 ∧ op ≠ 5 ∧ op ≠ 6)) :
    Calls Tryd.prog 15 #[.agg #[.string key, .int .i64 op, .slice a n c], .string value, .bool ok] w fun e w' => e = .returned (.bool false) ∧ Below w.heap.size w w' := by
  rcases hop with ⟨rfl | rfl, hn⟩ | ⟨o1, o2, o3, o4, o5, o6⟩
  · go_enter Tryd.func15, Tryd.ntmps15
    go_wp2
    go_ret
    exact ⟨rfl, (Below.refl _ _).alloc (Nat.le_refl _) _⟩
  · go_enter Tryd.func15, Tryd.ntmps15
    go_wp2
    go_ret
    exact ⟨rfl, (Below.refl _ _).alloc (Nat.le_refl _) _⟩
  · go_enter Tryd.func15, Tryd.ntmps15
    go_wp2
    go_ret
    exact ⟨rfl, (Below.refl _ _).alloc (Nat.le_refl _) _⟩

theorem holds_any (key value : ByteArray) (op : Int) (a : Option Addr) (n c : Nat) (f : Nat → ByteArray) (ok : Bool) (w : World) (hn : n ≤ 1048576) (ho : Own w a n f) (hv : value.size ≤ 1048576) (hf : ∀ i, i < n → (f i).size ≤ 1048576) (he : Errs w) :
    Calls Tryd.prog 15 #[.agg #[.string key, .int .i64 op, .slice a n c], .string value, .bool ok] w fun e w' => e = .returned (.bool (hAny op n f value ok)) ∧ Below w.heap.size w w' := by
  unfold hAny
  by_cases h1 : op = 1 ∨ op = 2 ∨ op = 3 ∨ op = 4
  · rw [if_pos h1]
    exact holds4 key value op a n c f ok w hn ho h1
  · rw [if_neg h1]
    by_cases h2 : op = 5 ∨ op = 6
    · rw [if_pos h2]
      by_cases h3 : n = 1
      · subst h3
        rw [show decide (1 = 1) = true from rfl, Bool.true_and]
        exact holds56 key value op a c f ok w ho hv (hf 0 (by omega)) he h2
      · rw [decide_eq_false h3, Bool.false_and]
        exact holds_no key value op a n c ok w (.inl ⟨h2, h3⟩)
    · rw [if_neg h2]
      exact holds_no key value op a n c ok w (.inr ⟨fun e => h1 (.inl e), fun e => h1 (.inr (.inl e)), fun e => h1 (.inr (.inr (.inl e))), fun e => h1 (.inr (.inr (.inr e))), fun e => h2 (.inl e), fun e => h2 (.inr e)⟩)

set_option maxHeartbeats 400000 in
theorem zzholds_any (key value : ByteArray) (op : Int) (a : Option Addr) (n c : Nat) (f : Nat → ByteArray) (ok : Bool) (w : World) (hn : n ≤ 1048576) (ho : Own w a n f) (hv : value.size ≤ 1048576) (hf : ∀ i, i < n → (f i).size ≤ 1048576) (he : Errs w) :
    Calls Tryd.prog 9 #[.agg #[.string key, .int .i64 op, .slice a n c], .string value, .bool ok] w fun e w' => e = .returned (.bool (hAny op n f value ok)) ∧ Below w.heap.size w w' := by
  have hb0 : Below w.heap.size w (w.alloc (.cells #[.string key, .int .i64 op, .slice a n c] 29)) := (Below.refl _ _).alloc (Nat.le_refl _) _
  have HO : Hid _ := ho.below hb0
  have HE : Hid _ := he.below hb0
  have HF : Hid (∀ i, i < n → (f i).size ≤ 1048576) := hf
  clear ho he hf hb0
  go_enter Tryd.func9, Tryd.ntmps9
  go_wp2_with fail
  refine (holds_any key value op a n c f ok _ hn HO.out hv HF.out HE.out).mono ?_
  rintro e w' ⟨rfl, hb⟩
  go_wp2
  go_ret
  exact ⟨rfl, ((Below.refl _ _).alloc (Nat.le_refl _) _).trans (hb.mono (by simp))⟩

set_option maxHeartbeats 1600000 in
theorem model_no (op : Int) (a : Option Addr) (n c : Nat) (value : ByteArray) (ok : Bool) (w : World) (hop : ((op = 5 ∨ op = 6) ∧ (ok = false ∨ n ≠ 1)) ∨ (op ≠ 1 ∧ op ≠ 2 ∧ op ≠ 3 ∧ op ≠ 4 ∧ op ≠ 5 ∧ op ≠ 6)) :
    Calls Tryd.prog 11 #[.int .i64 op, .slice a n c, .string value, .bool ok] w fun e w' => e = .returned (.bool false) ∧ w' = w := by
  rcases hop with ⟨rfl | rfl, hn⟩ | ⟨o1, o2, o3, o4, o5, o6⟩
  · cases ok
    · go_enter Tryd.func11, Tryd.ntmps11
      go_wp2
      go_ret
      exact ⟨rfl, rfl⟩
    · have hn' : n ≠ 1 := by simpa using hn
      go_enter Tryd.func11, Tryd.ntmps11
      go_wp2
      go_ret
      exact ⟨rfl, rfl⟩
  · cases ok
    · go_enter Tryd.func11, Tryd.ntmps11
      go_wp2
      go_ret
      exact ⟨rfl, rfl⟩
    · have hn' : n ≠ 1 := by simpa using hn
      go_enter Tryd.func11, Tryd.ntmps11
      go_wp2
      go_ret
      exact ⟨rfl, rfl⟩
  · go_enter Tryd.func11, Tryd.ntmps11
    go_wp2
    go_ret
    exact ⟨rfl, rfl⟩

set_option maxHeartbeats 1600000 in
theorem model4 (op : Int) (a : Option Addr) (n c : Nat) (f : Nat → ByteArray) (value : ByteArray) (ok : Bool) (w : World) (hn : n ≤ 1048576) (ho : Own w a n f) (hop : op = 1 ∨ op = 2 ∨ op = 3 ∨ op = 4) :
    Calls Tryd.prog 11 #[.int .i64 op, .slice a n c, .string value, .bool ok] w fun e w' => e = .returned (.bool (h4 op (memS f n value) ok)) ∧ w' = w := by
  have HO : Hid _ := ho
  clear ho
  rcases hop with rfl | rfl | rfl | rfl
  · cases ok
    · go_enter Tryd.func11, Tryd.ntmps11
      go_wp2
      go_ret
      exact ⟨by simp [h4], rfl⟩
    · go_enter Tryd.func11, Tryd.ntmps11
      go_wp2_with fail
      refine (member_any a n c f value _ hn HO.out).mono ?_
      rintro e w' ⟨rfl, rfl⟩
      go_wp2
      go_ret
      exact ⟨by simp [h4], rfl⟩
  · cases ok
    · go_enter Tryd.func11, Tryd.ntmps11
      go_wp2
      go_ret
      exact ⟨by simp [h4], rfl⟩
    · go_enter Tryd.func11, Tryd.ntmps11
      go_wp2_with fail
      refine (member_any a n c f value _ hn HO.out).mono ?_
      rintro e w' ⟨rfl, rfl⟩
      go_wp2
      go_ret
      exact ⟨by simp [h4], rfl⟩
  · go_enter Tryd.func11, Tryd.ntmps11
    go_wp2
    go_ret
    exact ⟨by simp [h4], rfl⟩
  · go_enter Tryd.func11, Tryd.ntmps11
    go_wp2
    go_ret
    exact ⟨by simp [h4], rfl⟩
end Go.Proofs.Qxb6602950aDoor
