/- WORK: zzHoldsModel at Gt and Lt; the law FnHoldsMatchesCaseTable: its walk. -/
import Derived.Test.Qxb6602950aDoorTable
namespace Go.Proofs.Qxb6602950aDoor
open Go.RowKit

set_option maxHeartbeats 1600000 in
theorem model56 (op : Int) (a : Option Addr) (c : Nat) (f : Nat → ByteArray) (value : ByteArray) (w : World) (ho : Own w a 1 f) (hv : value.size ≤ 1048576) (hf : (f 0).size ≤ 1048576) (hop : op = 5 ∨ op = 6) :
    Calls Tryd.prog 11 #[.int .i64 op, .slice a 1 c, .string value, .bool true] w fun e w' => e = .returned (.bool (cmp op (rd value.data.toList) (rd (f 0).data.toList))) ∧ w' = w := by
  obtain ⟨x, rfl, hx, hc⟩ : ∃ x, a = some x ∧ x.block < w.heap.size ∧ Rd w x 1 f := by
    rcases ho with h | h
    · omega
    · exact h
  have d3 : w.cell? x = some (.string (f 0)) := by
    have := hc 0 (by omega)
    rwa [add_z] at this
  clear hc ho
  generalize hx : rd value.data.toList = x
  generalize hy : rd (f 0).data.toList = y
  have HX : Hid (rd value.data.toList = x) := hx
  have HY : Hid (rd (f 0).data.toList = y) := hy
  clear hx hy
  rcases hop with rfl | rfl
  · go_enter Tryd.func11, Tryd.ntmps11
    go_wp2_with fail
    refine (dec_any value hv _).mono ?_
    rintro e w1 ⟨he, rfl⟩
    rw [HX.out] at he
    rcases he with ⟨v, rfl, rfl⟩ | ⟨rfl, rfl⟩
    · go_wp2_with fail
      refine (dec_any (f 0) hf _).mono ?_
      rintro e w2 ⟨he, rfl⟩
      rw [HY.out] at he
      rcases he with ⟨u, rfl, rfl⟩ | ⟨rfl, rfl⟩
      · go_wp2
        all_goals
          go_ret
          refine ⟨?_, rfl⟩
          simp only [cmp]
          simp
          try omega
      · go_wp2
        go_ret
        exact ⟨rfl, rfl⟩
    · go_wp2_with fail
      refine (dec_any (f 0) hf _).mono ?_
      rintro e w2 ⟨he, rfl⟩
      rw [HY.out] at he
      rcases he with ⟨u, rfl, rfl⟩ | ⟨rfl, rfl⟩
      · go_wp2
        go_ret
        exact ⟨rfl, rfl⟩
      · go_wp2
        go_ret
        exact ⟨rfl, rfl⟩
  · go_enter Tryd.func11, Tryd.ntmps11
    go_wp2_with fail
    refine (dec_any value hv _).mono ?_
    rintro e w1 ⟨he, rfl⟩
    rw [HX.out] at he
    rcases he with ⟨v, rfl, rfl⟩ | ⟨rfl, rfl⟩
    · go_wp2_with fail
      refine (dec_any (f 0) hf _).mono ?_
      rintro e w2 ⟨he, rfl⟩
      rw [HY.out] at he
      rcases he with ⟨u, rfl, rfl⟩ | ⟨rfl, rfl⟩
      · go_wp2
        all_goals
          go_ret
          refine ⟨?_, rfl⟩
          simp only [cmp]
          simp
          try omega
      · go_wp2
        go_ret
        exact ⟨rfl, rfl⟩
    · go_wp2_with fail
      refine (dec_any (f 0) hf _).mono ?_
      rintro e w2 ⟨he, rfl⟩
      rw [HY.out] at he
      rcases he with ⟨u, rfl, rfl⟩ | ⟨rfl, rfl⟩
      · go_wp2
        go_ret
        exact ⟨rfl, rfl⟩
      · go_wp2
        go_ret
        exact ⟨rfl, rfl⟩

theorem model_any (op : Int) (a : Option Addr) (n c : Nat) (f : Nat → ByteArray) (value : ByteArray) (ok : Bool) (w : World) (hn : n ≤ 1048576) (ho : Own w a n f) (hv : value.size ≤ 1048576) (hf : ∀ i, i < n → (f i).size ≤ 1048576) (hq : (op = 5 ∨ op = 6) → ok = false → value = ByteArray.empty) :
    Calls Tryd.prog 11 #[.int .i64 op, .slice a n c, .string value, .bool ok] w fun e w' => e = .returned (.bool (hAny op n f value ok)) ∧ w' = w := by
  unfold hAny
  by_cases h1 : op = 1 ∨ op = 2 ∨ op = 3 ∨ op = 4
  · rw [if_pos h1]
    exact model4 op a n c f value ok w hn ho h1
  · rw [if_neg h1]
    by_cases h2 : op = 5 ∨ op = 6
    · rw [if_pos h2]
      cases ok with
      | false =>
        have e1 : cmp op (rd value.data.toList) (rd (f 0).data.toList) = false := by rw [hq h2 rfl]; rfl
        rw [e1, Bool.and_false]
        exact model_no op a n c value false w (.inl ⟨h2, .inl rfl⟩)
      | true =>
        by_cases h3 : n = 1
        · subst h3
          rw [show decide (1 = 1) = true from rfl, Bool.true_and]
          exact model56 op a c f value w ho hv (hf 0 (by omega)) h2
        · rw [decide_eq_false h3, Bool.false_and]
          exact model_no op a n c value true w (.inl ⟨h2, .inr h3⟩)
    · rw [if_neg h2]
      exact model_no op a n c value ok w (.inr ⟨fun e => h1 (.inl e), fun e => h1 (.inr (.inl e)), fun e => h1 (.inr (.inr (.inl e))), fun e => h1 (.inr (.inr (.inr e))), fun e => h2 (.inl e), fun e => h2 (.inr e)⟩)

set_option maxHeartbeats 1600000 in
theorem case_any (key value : ByteArray) (op : Int) (a : Option Addr) (n c : Nat) (f : Nat → ByteArray) (ok : Bool) (w : World) (h1 : key.size ≤ 9223372036854775807) (h2 : value.size ≤ 9223372036854775807) (hn : n ≤ 9223372036854775807) (ho : Own w a n f) (hf : ∀ i, i < n → (f i).size ≤ 9223372036854775807) (hnil : a = none → n = 0 ∧ c = 0) (he : Errs w) :
    Calls Tryd.prog 4 #[.string key, .int .i64 op, .slice a n c, .string value, .bool ok] w fun e w' => e = .returned (.bool true) ∧ Below w.heap.size w w' := by
  have HE : Hid (Errs w) := he
  have HO : Hid (Own w a n f) := ho
  have HF : Hid (∀ i, i < n → (f i).size ≤ 9223372036854775807) := hf
  have HNIL : Hid (a = none → n = 0 ∧ c = 0) := hnil
  clear he ho hf hnil
  cases ok
  · by_cases hv : value.toList = []
    rotate_left
    have hv' : value.toList.isEmpty = false := by simpa using hv
    rotate_left
    · have HQ : Hid ((op = 5 ∨ op = 6) → false = false → value = ByteArray.empty) := fun _ _ => (Lib.bytes_beq_iff value ByteArray.empty).1 (by rw [hv]; simp)
      go_enter Tryd.func4, Tryd.ntmps4
      go_wp2_with fail
      refine (bytes10 key value op a n c f false w h1 h2 hn HO.out HF.out).mono ?_
      rintro e w' ⟨he, rfl⟩
      rcases he with rfl | ⟨rfl, hS⟩
      · go_wp2
        go_ret
        exact ⟨rfl, Below.refl _ _⟩
      have HS : Hid (Small key n f value) := hS
      clear hS
      go_wp2_with fail
      refine (fit7 key value a n c f _ HS.out HO.out).mono ?_
      rintro e w1 ⟨he, rfl⟩
      rcases he with rfl | rfl
      · go_wp2
        go_ret
        exact ⟨rfl, Below.refl _ _⟩
      go_wp2_with fail
      refine (clone_own a n c f _ HS.out.2.1 HO.out HNIL.out).mono ?_
      rintro e w2 ⟨a', rfl, hb2, C⟩
      have HO2 : Hid (Own w2 a' n f) := C.own
      have HE2 : Hid (Errs w2) := Errs.below HE.out hb2
      have HB2 : Hid _ := hb2
      clear C hb2
      go_wp2_with fail
      refine (zzholds_any key value op a' n n f false _ HS.out.2.1 HO2.out HS.out.2.2.1 HS.out.2.2.2 HE2.out).mono ?_
      rintro e w3 ⟨rfl, hb3⟩
      have HO3 : Hid (Own w3 a' n f) := Own.below HO2.out hb3
      have HB3 : Hid (Below w1.heap.size w1 w3) := HB2.out.trans (hb3.mono HB2.out.size)
      clear hb3
      go_wp2_with fail
      refine (model_any op a' n n f value false _ HS.out.2.1 HO3.out HS.out.2.2.1 HS.out.2.2.2 (fun h h' => HQ.out h (by first | exact h' | trivial))).mono ?_
      rintro e w4 ⟨rfl, rfl⟩
      generalize hAny op n f value false = z
      go_wp2
      go_ret
      exact ⟨by simp, HB3.out⟩
    · by_cases h5 : op = 5
      · subst h5
        go_enter Tryd.func4, Tryd.ntmps4
        go_wp2_with fail
        refine (bytes10 key value 5 a n c f false w h1 h2 hn HO.out HF.out).mono ?_
        rintro e w' ⟨he, rfl⟩
        rcases he with rfl | ⟨rfl, hS⟩
        · go_wp2
          go_ret
          exact ⟨rfl, Below.refl _ _⟩
        have HS : Hid (Small key n f value) := hS
        clear hS
        go_wp2_with fail
        refine (fit7 key value a n c f _ HS.out HO.out).mono ?_
        rintro e w1 ⟨he, rfl⟩
        rcases he with rfl | rfl
        · go_wp2
          go_ret
          exact ⟨rfl, Below.refl _ _⟩
        go_wp2
        go_ret
        exact ⟨rfl, Below.refl _ _⟩
      · by_cases h6 : op = 6
        · subst h6
          go_enter Tryd.func4, Tryd.ntmps4
          go_wp2_with fail
          refine (bytes10 key value 6 a n c f false w h1 h2 hn HO.out HF.out).mono ?_
          rintro e w' ⟨he, rfl⟩
          rcases he with rfl | ⟨rfl, hS⟩
          · go_wp2
            go_ret
            exact ⟨rfl, Below.refl _ _⟩
          have HS : Hid (Small key n f value) := hS
          clear hS
          go_wp2_with fail
          refine (fit7 key value a n c f _ HS.out HO.out).mono ?_
          rintro e w1 ⟨he, rfl⟩
          rcases he with rfl | rfl
          · go_wp2
            go_ret
            exact ⟨rfl, Below.refl _ _⟩
          go_wp2
          go_ret
          exact ⟨rfl, Below.refl _ _⟩
        · have HQ : Hid ((op = 5 ∨ op = 6) → false = false → value = ByteArray.empty) := fun h _ => (h.elim h5 h6).elim
          have h5' : (op == 5) = false := by simpa using h5
          have h6' : (op == 6) = false := by simpa using h6
          go_enter Tryd.func4, Tryd.ntmps4
          go_wp2_with fail
          refine (bytes10 key value op a n c f false w h1 h2 hn HO.out HF.out).mono ?_
          rintro e w' ⟨he, rfl⟩
          rcases he with rfl | ⟨rfl, hS⟩
          · go_wp2
            go_ret
            exact ⟨rfl, Below.refl _ _⟩
          have HS : Hid (Small key n f value) := hS
          clear hS
          go_wp2_with fail
          refine (fit7 key value a n c f _ HS.out HO.out).mono ?_
          rintro e w1 ⟨he, rfl⟩
          rcases he with rfl | rfl
          · go_wp2
            go_ret
            exact ⟨rfl, Below.refl _ _⟩
          go_wp2_with fail
          refine (clone_own a n c f _ HS.out.2.1 HO.out HNIL.out).mono ?_
          rintro e w2 ⟨a', rfl, hb2, C⟩
          have HO2 : Hid (Own w2 a' n f) := C.own
          have HE2 : Hid (Errs w2) := Errs.below HE.out hb2
          have HB2 : Hid _ := hb2
          clear C hb2
          go_wp2_with fail
          refine (zzholds_any key value op a' n n f false _ HS.out.2.1 HO2.out HS.out.2.2.1 HS.out.2.2.2 HE2.out).mono ?_
          rintro e w3 ⟨rfl, hb3⟩
          have HO3 : Hid (Own w3 a' n f) := Own.below HO2.out hb3
          have HB3 : Hid (Below w1.heap.size w1 w3) := HB2.out.trans (hb3.mono HB2.out.size)
          clear hb3
          go_wp2_with fail
          refine (model_any op a' n n f value false _ HS.out.2.1 HO3.out HS.out.2.2.1 HS.out.2.2.2 (fun h h' => HQ.out h (by first | exact h' | trivial))).mono ?_
          rintro e w4 ⟨rfl, rfl⟩
          generalize hAny op n f value false = z
          go_wp2
          go_ret
          exact ⟨by simp, HB3.out⟩
  · have HQ : Hid ((op = 5 ∨ op = 6) → true = false → value = ByteArray.empty) := fun _ h => by cases h
    go_enter Tryd.func4, Tryd.ntmps4
    go_wp2_with fail
    refine (bytes10 key value op a n c f true w h1 h2 hn HO.out HF.out).mono ?_
    rintro e w' ⟨he, rfl⟩
    rcases he with rfl | ⟨rfl, hS⟩
    · go_wp2
      go_ret
      exact ⟨rfl, Below.refl _ _⟩
    have HS : Hid (Small key n f value) := hS
    clear hS
    go_wp2_with fail
    refine (fit7 key value a n c f _ HS.out HO.out).mono ?_
    rintro e w1 ⟨he, rfl⟩
    rcases he with rfl | rfl
    · go_wp2
      go_ret
      exact ⟨rfl, Below.refl _ _⟩
    go_wp2_with fail
    refine (clone_own a n c f _ HS.out.2.1 HO.out HNIL.out).mono ?_
    rintro e w2 ⟨a', rfl, hb2, C⟩
    have HO2 : Hid (Own w2 a' n f) := C.own
    have HE2 : Hid (Errs w2) := Errs.below HE.out hb2
    have HB2 : Hid _ := hb2
    clear C hb2
    go_wp2_with fail
    refine (zzholds_any key value op a' n n f true _ HS.out.2.1 HO2.out HS.out.2.2.1 HS.out.2.2.2 HE2.out).mono ?_
    rintro e w3 ⟨rfl, hb3⟩
    have HO3 : Hid (Own w3 a' n f) := Own.below HO2.out hb3
    have HB3 : Hid (Below w1.heap.size w1 w3) := HB2.out.trans (hb3.mono HB2.out.size)
    clear hb3
    go_wp2_with fail
    refine (model_any op a' n n f value true _ HS.out.2.1 HO3.out HS.out.2.2.1 HS.out.2.2.2 (fun h h' => HQ.out h (by first | exact h' | trivial))).mono ?_
    rintro e w4 ⟨rfl, rfl⟩
    generalize hAny op n f value true = z
    go_wp2
    go_ret
    exact ⟨by simp, HB3.out⟩
end Go.Proofs.Qxb6602950aDoor
