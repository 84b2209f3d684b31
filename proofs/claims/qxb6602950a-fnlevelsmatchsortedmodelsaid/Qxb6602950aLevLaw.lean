/- WORK: the plain law of the levels: runs of equal numbers. No Go in sight. -/
namespace Go.Proofs.Qxb6602950a.Lev

def pushRun (ls : List (Int × Int)) (t : Int) : List (Int × Int) :=
  match ls.getLast? with
  | some p => if p.1 = t then ls.dropLast ++ [(t, p.2 + 1)] else ls ++ [(t, 1)]
  | none => [(t, 1)]
def runs (s : List Int) : List (Int × Int) := s.foldl pushRun []
theorem runs_nil : runs [] = [] := rfl
theorem runs_snoc (s : List Int) (t : Int) : runs (s ++ [t]) = pushRun (runs s) t := by simp [runs, List.foldl_append]
theorem pushRun_ne (ls : List (Int × Int)) (t : Int) : pushRun ls t ≠ [] := by
  unfold pushRun; split <;> (try split) <;> simp
/-- The three ways of a step. -/
theorem pushRun_nil (t : Int) : pushRun [] t = [(t, 1)] := rfl
theorem pushRun_hit (ls : List (Int × Int)) (t c : Int) : pushRun (ls ++ [(t, c)]) t = ls ++ [(t, c + 1)] := by simp [pushRun]
theorem pushRun_miss (ls : List (Int × Int)) (a t c : Int) (h : a ≠ t) : pushRun (ls ++ [(a, c)]) t = ls ++ [(a, c)] ++ [(t, 1)] := by simp [pushRun, h]
theorem snoc_cases {α : Type} (l : List α) : l = [] ∨ ∃ m x, l = m ++ [x] := by
  rcases List.eq_nil_or_concat l with h | ⟨m, x, h⟩
  · exact .inl h
  · exact .inr ⟨m, x, by simpa using h⟩
/-- Written out, the runs spell the list. -/
def expand (ls : List (Int × Int)) : List Int := ls.flatMap fun p => List.replicate p.2.toNat p.1
theorem expand_append (a b : List (Int × Int)) : expand (a ++ b) = expand a ++ expand b := by simp [expand]
theorem snoc_ind {α : Type} {P : List α → Prop} (h0 : P []) (h1 : ∀ l x, P l → P (l ++ [x])) (l : List α) : P l := by
  have : ∀ n (l : List α), l.length = n → P l := by
    intro n
    induction n with
    | zero => intro l hl; rw [List.eq_nil_of_length_eq_zero hl]; exact h0
    | succ n ih =>
      intro l hl
      rcases snoc_cases l with rfl | ⟨m, x, rfl⟩
      · simp at hl
      · exact h1 m x (ih m (by simpa using hl))
  exact this l.length l rfl
theorem runs_ok (s : List Int) : (∀ p ∈ runs s, 1 ≤ p.2) ∧ expand (runs s) = s := by
  induction s using snoc_ind with
  | h0 => exact ⟨by simp [runs], rfl⟩
  | h1 s t ih =>
    obtain ⟨h1, h2⟩ := ih
    rw [runs_snoc]
    rcases snoc_cases (runs s) with h | ⟨m, ⟨a, c⟩, h⟩
    · rw [h] at h2
      rw [h, pushRun_nil]
      refine ⟨by simp, ?_⟩
      rw [← h2]; rfl
    · rw [h] at h1 h2
      have hc : 1 ≤ c := h1 (a, c) (by simp)
      rw [h]
      by_cases e : a = t
      · subst e
        rw [pushRun_hit]
        refine ⟨?_, ?_⟩
        · intro p hp
          simp at hp
          rcases hp with hp | hp
          · exact h1 p (by simp [hp])
          · rw [hp]; show 1 ≤ c + 1; omega
        · rw [← h2, expand_append, expand_append, List.append_assoc]
          congr 1
          have : (c + 1).toNat = c.toNat + 1 := by omega
          simp [expand, this, List.replicate_succ']
      · rw [pushRun_miss _ _ _ _ e]
        refine ⟨?_, ?_⟩
        · intro p hp
          rw [List.mem_append] at hp
          rcases hp with hp | hp
          · exact h1 p hp
          · simp at hp; rw [hp]; show (1 : Int) ≤ 1; omega
        · rw [expand_append, h2]; rfl
theorem expand_length (ls : List (Int × Int)) (h : ∀ p ∈ ls, 1 ≤ p.2) : ((expand ls).length : Int) = (ls.map (·.2)).sum ∧ ls.length ≤ (expand ls).length ∧ ∀ p ∈ ls, p.2 ≤ (expand ls).length := by
  induction ls with
  | nil => exact ⟨rfl, Nat.le_refl _, by simp⟩
  | cons p ls ih =>
    obtain ⟨i1, i2, i3⟩ := ih (fun q hq => h q (by simp [hq]))
    have hp := h p (by simp)
    have e : expand (p :: ls) = List.replicate p.2.toNat p.1 ++ expand ls := by simp [expand]
    have l : (expand (p :: ls)).length = p.2.toNat + (expand ls).length := by rw [e]; simp
    refine ⟨?_, ?_, ?_⟩
    · rw [l]; simp only [List.map_cons, List.sum_cons]; omega
    · rw [l]; simp only [List.length_cons]; omega
    · intro q hq
      rw [l]
      simp at hq
      rcases hq with rfl | hq
      · omega
      · have := i3 q hq; omega
theorem runs_sum (s : List Int) : ((runs s).map (·.2)).sum = (s.length : Int) := by
  have h := runs_ok s
  have := (expand_length _ h.1).1
  rw [h.2] at this
  exact this.symm
theorem runs_length (s : List Int) : (runs s).length ≤ s.length := by
  have h := runs_ok s
  have := (expand_length _ h.1).2.1
  rw [h.2] at this
  exact this
theorem runs_count (s : List Int) : ∀ p ∈ runs s, 1 ≤ p.2 ∧ p.2 ≤ s.length := by
  have h := runs_ok s
  have := (expand_length _ h.1).2.2
  rw [h.2] at this
  exact fun p hp => ⟨h.1 p hp, this p hp⟩
/-- Of a sorted list the runs ascend strictly. -/
theorem runs_asc (s : List Int) (hs : s.Pairwise (· ≤ ·)) : ((runs s).map (·.1)).Pairwise (· < ·) ∧ ∀ p ∈ runs s, p.1 ∈ s := by
  induction s using snoc_ind with
  | h0 => exact ⟨by simp [runs], by simp [runs]⟩
  | h1 s t ih =>
    rw [List.pairwise_append] at hs
    obtain ⟨hs1, _, hs3⟩ := hs
    obtain ⟨h1, h2⟩ := ih hs1
    have hall : ∀ p ∈ runs s, p.1 ≤ t := fun p hp => hs3 p.1 (h2 p hp) t (by simp)
    rw [runs_snoc]
    rcases snoc_cases (runs s) with h | ⟨m, ⟨a, c⟩, h⟩
    · rw [h, pushRun_nil]
      exact ⟨by simp, by simp⟩
    · rw [h] at h1 h2 hall
      rw [h]
      by_cases e : a = t
      · subst e
        rw [pushRun_hit]
        refine ⟨by simpa using h1, ?_⟩
        intro p hp
        rw [List.mem_append] at hp
        rcases hp with hp | hp
        · exact List.mem_append_left _ (h2 p (by simp [hp]))
        · simp at hp; rw [hp]; simp
      · rw [pushRun_miss _ _ _ _ e]
        refine ⟨?_, ?_⟩
        · rw [List.map_append, List.pairwise_append]
          refine ⟨h1, by simp, ?_⟩
          intro x hx y hy
          simp at hy
          rw [hy]
          have hat : a < t := by
            have := hall (a, c) (by simp)
            simp at this
            omega
          rw [List.map_append, List.mem_append] at hx
          rcases hx with hx | hx
          · rw [List.map_append, List.pairwise_append] at h1
            have := h1.2.2 x hx a (by simp)
            omega
          · simp at hx; omega
        · intro p hp
          rw [List.mem_append] at hp
          rcases hp with hp | hp
          · exact List.mem_append_left _ (h2 p hp)
          · simp at hp; rw [hp]; simp
end Go.Proofs.Qxb6602950a.Lev
