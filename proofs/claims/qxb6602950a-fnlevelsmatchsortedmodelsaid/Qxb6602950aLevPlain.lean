/- WORK: plain facts on the levels of a node. -/
import Derived.Test.Qxb6602950aLevZZ
namespace Go.Proofs.Qxb6602950a

def leI : Int → Int → Bool := fun x y => decide (x ≤ y)
theorem leI_trans (a b c : Int) (h1 : leI a b = true) (h2 : leI b c = true) : leI a c = true := by simp [leI] at *; omega
theorem leI_total (a b : Int) : (leI a b || leI b a) = true := by simp [leI]; omega
theorem sorted_sort (l : List Int) : (l.mergeSort leI).Pairwise (· ≤ ·) := by
  have := List.pairwise_mergeSort leI_trans leI_total l
  exact this.imp (fun h => by simpa [leI] using h)
theorem sorted_unique {l m : List Int} (h : l.Perm m) (hl : l.Pairwise (· ≤ ·)) (hm : m.Pairwise (· ≤ ·)) : l = m :=
  List.Perm.eq_of_pairwise (le := (· ≤ ·)) (fun a b _ _ h1 h2 => by omega) hl hm h
theorem sort_perm {l m : List Int} (h : l.Perm m) : l.mergeSort leI = m.mergeSort leI :=
  sorted_unique (((List.mergeSort_perm l leI).trans h).trans (List.mergeSort_perm m leI).symm) (sorted_sort l) (sorted_sort m)
theorem srt_eq (n : Int) (U : List Int) : srt n U = (U ++ List.replicate (n - U.length).toNat 0).mergeSort leI := rfl
theorem srt_perm (n : Int) {U V : List Int} (h : U.Perm V) : srt n U = srt n V := by
  rw [srt_eq, srt_eq, h.length_eq]
  exact sort_perm (h.append_right _)
theorem lev_perm (n : Int) {U V : List Int} (h : U.Perm V) : lev n U = lev n V := by
  unfold lev
  rw [h.length_eq, srt_perm n h]
theorem srt_length (n : Int) (U : List Int) : (srt n U).length = U.length + (n - U.length).toNat := by simp [srt_eq]
/-- The devices add up. -/
theorem lev_sum (n : Int) (U : List Int) : ((lev n U).map (·.2)).sum = (if (U.length : Int) < n then n else U.length) := by
  unfold lev
  split
  · rename_i h; rw [if_pos (by omega)]; simp
  · rw [Lev.runs_sum, srt_length]
    split <;> omega
theorem lev_pos (n : Int) (U : List Int) : ∀ p ∈ lev n U, 1 ≤ p.2 := by
  unfold lev
  split
  · rename_i h
    intro p hp
    simp at hp
    rw [hp]; show 1 ≤ n; omega
  · exact fun p hp => (Lev.runs_count _ p hp).1
theorem pos_sum (l : List Int) (h : ∀ x ∈ l, 1 ≤ x) : (l.length : Int) ≤ l.sum := by
  induction l with
  | nil => simp
  | cons x l ih =>
    have h1 := ih (fun y hy => h y (by simp [hy]))
    have h2 := h x (by simp)
    simp only [List.length_cons, List.sum_cons]
    omega
theorem lev_le (n : Int) (U : List Int) : ((lev n U).length : Int) ≤ (if (U.length : Int) < n then n else U.length) := by
  rw [← lev_sum]
  have := pos_sum ((lev n U).map (·.2)) (by
    intro x hx
    obtain ⟨p, hp, rfl⟩ := List.mem_map.1 hx
    exact lev_pos n U p hp)
  simpa using this
/-- Sums so far. -/
def psum (l : List Int) (k : Nat) : Int := (l.take k).sum
theorem psum_succ (l : List Int) (k : Nat) (h : k < l.length) : psum l (k + 1) = psum l k + l[k] := by
  unfold psum
  rw [List.take_succ_eq_append_getElem h, List.sum_append]
  simp only [List.sum_cons, List.sum_nil]
  omega
theorem psum_bd (l : List Int) (h : ∀ x ∈ l, 1 ≤ x) (k : Nat) : 0 ≤ psum l k ∧ psum l k ≤ l.sum := by
  unfold psum
  have e : l.sum = (l.take k).sum + (l.drop k).sum := by
    rw [← List.sum_append, List.take_append_drop]
  have h1 := pos_sum (l.take k) (fun x hx => h x (List.mem_of_mem_take hx))
  have h2 := pos_sum (l.drop k) (fun x hx => h x (List.mem_of_mem_drop hx))
  omega
theorem psum_all (l : List Int) : psum l l.length = l.sum := by unfold psum; rw [List.take_length]

/-- The numbers f 0, .., f (n - 1). -/
def lst (f : Nat → Int) (n : Nat) : List Int := (List.range n).map f
theorem lst_length (f : Nat → Int) (n : Nat) : (lst f n).length = n := by simp [lst]
theorem lst_get (f : Nat → Int) (n j : Nat) (h : j < n) : (lst f n)[j]? = some (f j) := by simp [lst, h]
theorem lst_rev (f : Nat → Int) (n : Nat) : lst (fun i => f (n - 1 - i)) n = (lst f n).reverse := by
  apply List.ext_getElem?
  intro j
  by_cases h : j < n
  · rw [lst_get _ _ _ h, List.getElem?_reverse (by rw [lst_length]; exact h), lst_length, lst_get _ _ _ (by omega)]
  · rw [List.getElem?_eq_none (by rw [lst_length]; omega), List.getElem?_eq_none (by rw [List.length_reverse, lst_length]; omega)]
theorem lst_rot (f : Nat → Int) (n : Nat) : (lst (fun i => f ((i + 1) % n)) n).Perm (lst f n) := by
  cases n with
  | zero => exact List.Perm.refl _
  | succ m =>
    have e1 : lst (fun i => f ((i + 1) % (m + 1))) (m + 1) = lst (fun i => f (i + 1)) m ++ [f 0] := by
      unfold lst
      rw [List.range_succ, List.map_append]
      congr 1
      · apply List.map_congr_left
        intro i hi
        rw [List.mem_range] at hi
        rw [Nat.mod_eq_of_lt (by omega)]
      · simp
    have e2 : lst f (m + 1) = f 0 :: lst (fun i => f (i + 1)) m := by
      unfold lst
      rw [List.range_succ_eq_map]
      simp [Function.comp_def]
    rw [e1, e2]
    exact List.perm_append_comm
end Go.Proofs.Qxb6602950a
