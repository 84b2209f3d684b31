/- WORK: the plain law of the log of generations. -/
import Derived.Test.Qxb6603579aPlain
import Derived.Test.Qxb6603579aLog
set_option linter.unusedVariables false
namespace Go.Proofs.Qxb6603579a
open Go.RowKit Go.Maps
open Go.WideShapes Go.ChangeMaps Go.WideMaps

/-- What the log says of a key is what the map says of it. -/
def Agree (o : Option ByteArray) (D : DataW Unit) (key : ByteArray) : Prop :=
  Maps.has D (kl key) = o.isSome ∧ D.atKey (kl key) (dl (ByteArray.mk #[])) = dl (o.getD (ByteArray.mk #[]))
structure LogRel (M : List Rec) (gen : Int) (Dn Do : DataW Unit) : Prop where
  new : ∀ key, Agree (lookup M gen key) Dn key
  old : ∀ key, Agree (lookup M (gen - 1) key) Do key
  le : ∀ r ∈ M, r.2.2 ≤ gen
  srt : M.Pairwise (fun a b => b.2.2 ≤ a.2.2)

theorem look_above : ∀ (M : List Rec) (g : Int) (key : ByteArray), (∀ r ∈ M, r.2.2 < g) → lookup M g key = none
  | [], _, _, _ => rfl
  | (k, n, gn) :: M, g, key, h => by
    have h0 : gn < g := h (k, n, gn) (by simp)
    rw [look_skip (.inl (by omega))]
    exact look_above M g key (fun r hr => h r (by simp [hr]))
theorem seen_look : ∀ (M : List Rec) (g : Int) (key : ByteArray), (∀ r ∈ M, r.2.2 ≤ g) → M.Pairwise (fun a b => b.2.2 ≤ a.2.2) → seen M g key = (lookup M g key).isSome
  | [], _, _, _, _ => rfl
  | (k, n, gn) :: M, g, key, h, hs => by
    have hs' := List.pairwise_cons.1 hs
    by_cases hg : gn = g
    · subst hg
      by_cases hk : k = key
      · subst hk
        rw [seen_hit, look_hit]
        rfl
      · rw [seen_skip hk, look_skip (.inr hk)]
        exact seen_look M gn key (fun r hr => h r (by simp [hr])) hs'.2
    · have h0 : gn ≤ g := h (k, n, gn) (by simp)
      rw [seen_off hg, look_skip (.inl hg), look_above M g key]
      · rfl
      · intro r hr
        have := hs'.1 r hr
        simp only at this
        omega

theorem Agree.nil (key : ByteArray) : Agree none (.map []) key := ⟨rfl, rfl⟩
theorem LogRel.nil : LogRel [] 0 (.map []) (.map []) := ⟨fun k => Agree.nil k, fun k => Agree.nil k, by simp, List.Pairwise.nil⟩
theorem Agree.put {M : List Rec} {g : Int} {D : DataW Unit} {key' : ByteArray} (hD : IsMap D) (key name : ByteArray) (h : Agree (lookup M g key') D key') : Agree (lookup ((key, name, g) :: M) g key') (D.put (kl key) (dl name)) key' := by
  by_cases e : key = key'
  · subst e
    rw [look_hit]
    exact ⟨has_put_same hD (kl_key key) _, atKey_put_same hD (kl_key key) _ _⟩
  · have hne : kl key' ≠ kl key := fun e' => e (kl_inj e').symm
    rw [look_skip (.inr e)]
    exact ⟨by rw [has_put_other hne]; exact h.1, by rw [atKey_put_other hne]; exact h.2⟩

theorem LogRel.step {M : List Rec} {gen : Int} {Dn Do : DataW Unit} {z : Nat} (h : LogRel M gen Dn Do) (hT : Tidy Dn) (key name : ByteArray) :
    LogRel ((key, name, genS ((z / 2 : Nat) : Int) gen (Maps.size Dn)) :: M) (genS ((z / 2 : Nat) : Int) gen (Maps.size Dn)) (stepN z Dn key name) (stepO z Dn Do) ∧ (Maps.size (stepN z Dn key name) : Int) = curS M ((z / 2 : Nat) : Int) gen (Maps.size Dn) key := by
  by_cases hz : z / 2 ≤ Maps.size Dn
  · have hG : genS ((z / 2 : Nat) : Int) gen (Maps.size Dn) = gen + 1 := if_pos (by omega)
    have hS : seen M (gen + 1) key = false := by
      rw [seen_look M (gen + 1) key (fun r hr => by have := h.le r hr; omega) h.srt, look_above M (gen + 1) key (fun r hr => by have := h.le r hr; omega)]
      rfl
    unfold curS
    rw [hG, hS]
    unfold stepN stepO
    rw [if_pos hz, if_pos hz, if_pos (by omega), size_one]
    refine ⟨⟨fun k' => ?_, fun k' => ?_, ?_, ?_⟩, by simp⟩
    · refine Agree.put isMap_empty key name ?_
      rw [look_above M (gen + 1) k' (fun r hr => by have := h.le r hr; omega)]
      exact Agree.nil k'
    · rw [look_skip (.inl (by omega)), show gen + 1 - 1 = gen by omega]
      exact h.new k'
    · intro r hr
      rcases List.mem_cons.1 hr with rfl | hr
      · exact Int.le_refl _
      · have := h.le r hr; omega
    · exact List.pairwise_cons.2 ⟨fun r hr => by have := h.le r hr; show r.2.2 ≤ gen + 1; omega, h.srt⟩
  · have hG : genS ((z / 2 : Nat) : Int) gen (Maps.size Dn) = gen := if_neg (by omega)
    have hS : seen M gen key = Maps.has Dn (kl key) := by
      rw [seen_look M gen key h.le h.srt, (h.new key).1]
    unfold curS
    rw [hG, hS]
    unfold stepN stepO
    rw [if_neg hz, if_neg hz, if_neg (by omega), size_put hT]
    refine ⟨⟨fun k' => Agree.put hT.isMap key name (h.new k'), fun k' => ?_, ?_, ?_⟩, ?_⟩
    · rw [look_skip (.inl (by omega))]
      exact h.old k'
    · intro r hr
      rcases List.mem_cons.1 hr with rfl | hr
      · exact Int.le_refl _
      · exact h.le r hr
    · exact List.pairwise_cons.2 ⟨fun r hr => h.le r hr, h.srt⟩
    · cases Maps.has Dn (kl key) <;> simp

theorem LogRel.get {M : List Rec} {gen : Int} {Dn Do Dn' Do' : DataW Unit} {z : Nat} {key s : ByteArray} {b : Bool} (h : LogRel M gen Dn Do) (g : GetRel z Dn Do key s b Dn' Do') :
    (lookup M gen key = some s ∧ b = true ∧ Dn' = Dn ∧ Do' = Do) ∨
    (lookup M gen key = none ∧ lookup M (gen - 1) key = some s ∧ b = true ∧ Dn' = stepN z Dn key s ∧ Do' = stepO z Dn Do) ∨
    (lookup M gen key = none ∧ lookup M (gen - 1) key = none ∧ s = ByteArray.mk #[] ∧ b = false ∧ Dn' = Dn ∧ Do' = Do) := by
  obtain ⟨n1, n2⟩ := h.new key
  obtain ⟨o1, o2⟩ := h.old key
  rcases g with ⟨g1, g2, g3, g4, g5⟩ | ⟨g1, g2, g3, g4, g5, g6⟩ | ⟨g1, g2, g3, g4, g5, g6⟩
  · refine .inl ⟨?_, g3, g4, g5⟩
    rw [g1] at n1
    obtain ⟨s0, e⟩ := Option.isSome_iff_exists.1 n1.symm
    rw [e] at n2 ⊢
    rw [dl_inj (g2.symm.trans n2)]
    rfl
  · refine .inr (.inl ⟨?_, ?_, g4, g5, g6⟩)
    · rw [g1] at n1
      exact Option.isNone_iff_eq_none.1 (by simpa using n1.symm)
    · rw [g2] at o1
      obtain ⟨s0, e⟩ := Option.isSome_iff_exists.1 o1.symm
      rw [e] at o2 ⊢
      rw [dl_inj (g3.symm.trans o2)]
      rfl
  · refine .inr (.inr ⟨?_, ?_, g3, g4, g5, g6⟩)
    · rw [g1] at n1
      exact Option.isNone_iff_eq_none.1 (by simpa using n1.symm)
    · rw [g2] at o1
      exact Option.isNone_iff_eq_none.1 (by simpa using o1.symm)
end Go.Proofs.Qxb6603579a
