/- WORK: the law FnHoldsNotInComplementsIn: its walk. -/
import Derived.Test.Qxb6602950aDoorHolds
namespace Go.Proofs.Qxb6602950aDoor
open Go.RowKit
theorem Cl.own {w : World} {b n : Nat} {a : Option Addr} {f : Nat → ByteArray} (h : Cl w b a n f) : Own w a n f := by
  rcases h with h | ⟨rfl, h⟩
  · exact .inl h
  · exact .inr ⟨_, rfl, h.lt, fun i hi => by rw [add_zero_none]; exact h.cell hi⟩

set_option maxHeartbeats 1600000 in
theorem notin_any (key value : ByteArray) (a : Option Addr) (n c : Nat) (f : Nat → ByteArray) (ok : Bool) (w : World) (h1 : key.size ≤ 9223372036854775807) (h2 : value.size ≤ 9223372036854775807) (hn : n ≤ 9223372036854775807) (ho : Own w a n f) (hf : ∀ i, i < n → (f i).size ≤ 9223372036854775807) (hnil : a = none → n = 0 ∧ c = 0) :
    Calls Tryd.prog 3 #[.string key, .slice a n c, .string value, .bool ok] w fun e w' => e = .returned (.bool true) ∧ Below w.heap.size w w' := by
  go_enter Tryd.func3, Tryd.ntmps3
  go_wp2_with fail
  refine (bytes6 key value a n c f ok w h1 h2 hn ho hf).mono ?_
  rintro e w' ⟨he, rfl⟩
  rcases he with rfl | ⟨rfl, hS⟩
  · go_wp2
    go_ret
    exact ⟨rfl, Below.refl _ _⟩
  go_wp2_with fail
  refine (fit7 key value a n c f _ hS ho).mono ?_
  rintro e w1 ⟨he, rfl⟩
  rcases he with rfl | rfl
  · go_wp2
    go_ret
    exact ⟨rfl, Below.refl _ _⟩
  go_wp2_with fail
  refine (clone_own a n c f _ hS.2.1 ho hnil).mono ?_
  rintro e w2 ⟨a', rfl, hb2, C⟩
  have hn' := hS.2.1
  have HO : Own w2 a' n f := C.own
  clear C ho hS hf hnil
  go_wp2_with fail
  refine (zzholds4 key value 1 a' n n f ok _ hn' HO (.inl rfl)).mono ?_
  rintro e w3 ⟨rfl, hb3⟩
  go_wp2_with fail
  have HO3 : Own w3 a' n f := HO.below hb3
  refine (zzholds4 key value 2 a' n n f ok _ hn' HO3 (.inr (.inl rfl))).mono ?_
  rintro e w4 ⟨rfl, hb4⟩
  go_wp2_with fail
  have HO4 : Own w4 a' n f := HO3.below hb4
  refine (zzholds4 key value 3 a' n n f ok _ hn' HO4 (.inr (.inr (.inl rfl)))).mono ?_
  rintro e w5 ⟨rfl, hb5⟩
  go_wp2_with fail
  have HO5 : Own w5 a' n f := HO4.below hb5
  refine (zzholds4 key value 4 a' n n f ok _ hn' HO5 (.inr (.inr (.inr rfl)))).mono ?_
  rintro e w6 ⟨rfl, hb6⟩
  have HB : Hid (Below w1.heap.size w1 w6) := hb2.trans ((hb3.mono hb2.size).trans ((hb4.mono (Nat.le_trans hb2.size hb3.size)).trans ((hb5.mono (Nat.le_trans hb2.size (Nat.le_trans hb3.size hb4.size))).trans (hb6.mono (Nat.le_trans hb2.size (Nat.le_trans hb3.size (Nat.le_trans hb4.size hb5.size)))))))
  have e1 : h4 1 (memS f n value) ok = (ok && memS f n value) := rfl
  have e2 : h4 2 (memS f n value) ok = (!ok || !memS f n value) := rfl
  have e3 : h4 3 (memS f n value) ok = ok := rfl
  have e4 : h4 4 (memS f n value) ok = !ok := rfl
  rw [e1, e2, e3, e4]
  generalize memS f n value = m
  clear e1 e2 e3 e4 hb2 hb3 hb4 hb5 hb6
  cases ok <;> cases m
  all_goals
    go_wp2
    go_ret
    exact ⟨rfl, HB.out⟩
end Go.Proofs.Qxb6602950aDoor
