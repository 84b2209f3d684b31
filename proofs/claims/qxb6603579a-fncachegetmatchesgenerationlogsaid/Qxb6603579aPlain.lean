/- WORK: the plain law of the cache: a token stored stays. -/
import Derived.Test.Qxb6603579aGet
namespace Go.Proofs.Qxb6603579a
open Go.RowKit Go.Maps
open Go.WideShapes Go.ChangeMaps Go.WideMaps
set_option linter.unusedVariables false

theorem kl_key (s : ByteArray) : WideAt.IsKeyLit (kl s) := trivial
theorem kl_inj {s t : ByteArray} (h : kl s = kl t) : s = t := by
  injection h with h
  cases s; cases t
  simpa using h

/-- The newer map never outgrows. -/
def Fit (z : Nat) (D : DataW Unit) : Prop := Tidy D ∧ Maps.size D ≤ z / 2 + 1
theorem Fit.lt {z : Nat} {D : DataW Unit} (h : Fit z D) (hz : z ≤ 65536) : Maps.size D < maxLen := by
  have := h.2
  unfold maxLen
  omega
theorem size_one (k : Lit) (d : DataW Unit) : Maps.size (DataW.put (.map []) k d) = 1 := by
  rw [size_put tidy_empty]
  rfl
theorem Fit.nil (z : Nat) : Fit z (.map []) := ⟨tidy_empty, Nat.zero_le _⟩
theorem Fit.step {z : Nat} {D : DataW Unit} (h : Fit z D) (k v : ByteArray) : Fit z (stepN z D k v) := by
  unfold stepN
  split
  · exact ⟨tidy_empty.put (kl_key k) _, by rw [size_one]; omega⟩
  · refine ⟨h.1.put (kl_key k) _, ?_⟩
    rw [size_put h.1]
    split <;> omega

theorem has_step {z : Nat} {D : DataW Unit} (h : Tidy D) (k v : ByteArray) : Maps.has (stepN z D k v) (kl k) = true ∧ (stepN z D k v).atKey (kl k) (dl (ByteArray.mk #[])) = dl v := by
  unfold stepN
  split
  · exact ⟨has_put_same isMap_empty (kl_key k) _, atKey_put_same isMap_empty (kl_key k) _ _⟩
  · exact ⟨has_put_same h.isMap (kl_key k) _, atKey_put_same h.isMap (kl_key k) _ _⟩

/-- The token is there, j stores of other tokens behind its own. -/
def Keep (tok name : ByteArray) (j : Nat) (Dn Do : DataW Unit) : Prop :=
  (Maps.has Dn (kl tok) = true ∧ Dn.atKey (kl tok) (dl (ByteArray.mk #[])) = dl name) ∨
  (Maps.has Dn (kl tok) = false ∧ Maps.has Do (kl tok) = true ∧ Do.atKey (kl tok) (dl (ByteArray.mk #[])) = dl name ∧ Maps.size Dn ≤ j)
theorem Keep.step {z j : Nat} {tok name k v : ByteArray} {Dn Do : DataW Unit} (h : Keep tok name j Dn Do) (hT : Tidy Dn) (hj : j < z / 2) (hk : k ≠ tok) : Keep tok name (j + 1) (stepN z Dn k v) (stepO z Dn Do) := by
  have hne : kl tok ≠ kl k := fun e => hk (kl_inj e).symm
  unfold stepN stepO
  rcases h with ⟨h1, h2⟩ | ⟨h1, h2, h3, h4⟩
  · split
    · refine .inr ⟨?_, h1, h2, by rw [size_one]; omega⟩
      rw [has_put_other hne]
      rfl
    · refine .inl ⟨?_, ?_⟩
      · rw [has_put_other hne]; exact h1
      · rw [atKey_put_other hne]; exact h2
  · rw [if_neg (by omega), if_neg (by omega)]
    refine .inr ⟨?_, h2, h3, ?_⟩
    · rw [has_put_other hne]; exact h1
    · rw [size_put hT]
      split <;> omega
theorem Keep.get {z j : Nat} {tok name s : ByteArray} {b : Bool} {Dn Do Dn' Do' : DataW Unit} (h : Keep tok name j Dn Do) (g : GetRel z Dn Do tok s b Dn' Do') : s = name ∧ b = true := by
  rcases h with ⟨h1, h2⟩ | ⟨h1, h2, h3, h4⟩ <;> rcases g with ⟨g1, g2, g3, _⟩ | ⟨g1, g2, g3, g4, _⟩ | ⟨g1, g2, _⟩
  · exact ⟨dl_inj (g2.symm.trans h2), g3⟩
  · simp [h1] at g1
  · simp [h1] at g1
  · simp [h1] at g1
  · exact ⟨dl_inj (g3.symm.trans h3), g4⟩
  · simp [h2] at g2
end Go.Proofs.Qxb6603579a
