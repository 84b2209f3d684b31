/- WORK: the plain law of the bottom-up merge sort. No Go in sight. -/
import Derived.Test.Qxb6602950aLevPlain
namespace Go.Proofs.Qxb6602950a

/-- f a, .., f (b - 1). -/
def seg (f : Nat → Int) (a b : Nat) : List Int := (List.range' a (b - a)).map f
theorem seg_none (f : Nat → Int) {a b : Nat} (h : b ≤ a) : seg f a b = [] := by
  unfold seg; rw [show b - a = 0 from by omega]; rfl
theorem seg_snoc (f : Nat → Int) {a b : Nat} (h : a ≤ b) : seg f a (b + 1) = seg f a b ++ [f b] := by
  unfold seg
  rw [show b + 1 - a = (b - a) + 1 from by omega, List.range'_concat, List.map_append]
  rw [show a + 1 * (b - a) = b from by omega]
  rfl
theorem seg_cons (f : Nat → Int) {a b : Nat} (h : a < b) : seg f a b = f a :: seg f (a + 1) b := by
  unfold seg
  rw [show b - a = (b - (a + 1)) + 1 from by omega, List.range'_succ]
  rfl
theorem seg_length (f : Nat → Int) (a b : Nat) : (seg f a b).length = b - a := by simp [seg]
theorem seg_append (f : Nat → Int) {a b c : Nat} (h1 : a ≤ b) (h2 : b ≤ c) : seg f a c = seg f a b ++ seg f b c := by
  unfold seg
  rw [← List.map_append]
  congr 1
  have := @List.range'_append_1 a (b - a) (c - b)
  rw [show a + (b - a) = b from by omega, show b - a + (c - b) = c - a from by omega] at this
  exact this.symm
theorem seg_congr {f g : Nat → Int} {a b : Nat} (h : ∀ i, a ≤ i → i < b → f i = g i) : seg f a b = seg g a b := by
  unfold seg
  apply List.map_congr_left
  intro i hi
  rw [List.mem_range'_1] at hi
  exact h i (by omega) (by omega)
theorem lst_seg (f : Nat → Int) (n : Nat) : lst f n = seg f 0 n := by simp [lst, seg, List.range_eq_range']
theorem seg_get (f : Nat → Int) (a b j : Nat) (h : j < b - a) : (seg f a b)[j]? = some (f (a + j)) := by
  simp [seg, h]
def updI (f : Nat → Int) (k : Nat) (y : Int) : Nat → Int := fun j => if j = k then y else f j
theorem seg_upd (d : Nat → Int) (k : Nat) (v : Int) : seg (updI d k v) 0 (k + 1) = seg d 0 k ++ [v] := by
  rw [seg_snoc _ (Nat.zero_le _), show updI d k v k = v from if_pos rfl]
  congr 1
  exact seg_congr (fun i _ h => if_neg (by omega))

/-! ### One round of the inner loop -/
theorem step_left {s : Nat → Int} {i j mid hi : Nat} (h1 : i < mid) (h2 : hi ≤ j ∨ s i ≤ s j) :
    (seg s i mid).merge (seg s j hi) leI = s i :: (seg s (i + 1) mid).merge (seg s j hi) leI := by
  rw [seg_cons s h1]
  by_cases hj : j < hi
  · rw [seg_cons s hj, List.cons_merge_cons, if_pos (by simp [leI]; omega)]
  · rw [seg_none s (by omega : hi ≤ j), List.merge_right, List.merge_right]
theorem step_right {s : Nat → Int} {i j mid hi : Nat} (hj : j < hi) (h : i < mid → s j < s i) :
    (seg s i mid).merge (seg s j hi) leI = s j :: (seg s i mid).merge (seg s (j + 1) hi) leI := by
  by_cases h1 : i < mid
  · have := h h1
    rw [seg_cons s h1, seg_cons s hj, List.cons_merge_cons, if_neg (by simp [leI]; omega)]
  · rw [seg_none s (by omega : mid ≤ i), List.nil_merge, List.nil_merge, seg_cons s hj]

/-! ### Neighbours in order, but at the blocks' heads -/
def Adj (W : Nat) (f : Nat → Int) (n : Nat) : Prop := ∀ i, i + 1 < n → (i + 1) % W ≠ 0 → f i ≤ f (i + 1)
theorem pair_of_adj {f : Nat → Int} {a b : Nat} (h : ∀ i, a ≤ i → i + 1 < b → f i ≤ f (i + 1)) : (seg f a b).Pairwise (· ≤ ·) := by
  have mono : ∀ k i, a ≤ i → i + k < b → f i ≤ f (i + k) := by
    intro k
    induction k with
    | zero => intro i _ _; exact Int.le_refl _
    | succ k ih =>
      intro i hi hk
      have h1 := ih i hi (by omega)
      have h2 := h (i + k) (by omega) (by omega)
      rw [show i + (k + 1) = i + k + 1 from by omega]
      omega
  rw [List.pairwise_iff_getElem]
  intro i j hi hj hij
  rw [seg_length] at hi hj
  have e1 := seg_get f a b i hi
  have e2 := seg_get f a b j hj
  rw [List.getElem?_eq_getElem (by rw [seg_length]; exact hi)] at e1
  rw [List.getElem?_eq_getElem (by rw [seg_length]; exact hj)] at e2
  rw [Option.some.inj e1, Option.some.inj e2]
  have := mono (j - i) (a + i) (by omega) (by omega)
  rw [show a + i + (j - i) = a + j from by omega] at this
  exact this
theorem adj_of_pair {f : Nat → Int} {a b : Nat} (h : (seg f a b).Pairwise (· ≤ ·)) (i : Nat) (h1 : a ≤ i) (h2 : i + 1 < b) : f i ≤ f (i + 1) := by
  rw [List.pairwise_iff_getElem] at h
  have := h (i - a) (i - a + 1) (by rw [seg_length]; omega) (by rw [seg_length]; omega) (by omega)
  have e1 := seg_get f a b (i - a) (by omega)
  have e2 := seg_get f a b (i - a + 1) (by omega)
  rw [List.getElem?_eq_getElem (by rw [seg_length]; omega), show a + (i - a) = i from by omega] at e1
  rw [List.getElem?_eq_getElem (by rw [seg_length]; omega), show a + (i - a + 1) = i + 1 from by omega] at e2
  rw [Option.some.inj e1, Option.some.inj e2] at this
  exact this
theorem adj_one (f : Nat → Int) (n : Nat) : Adj 1 f n := fun _ _ h => absurd (Nat.mod_one _) h
theorem adj_sorted {W : Nat} {f : Nat → Int} {n : Nat} (h : Adj W f n) (hW : n ≤ W) : (seg f 0 n).Pairwise (· ≤ ·) :=
  pair_of_adj (fun i _ hi => h i hi (by rw [Nat.mod_eq_of_lt (by omega)]; omega))

/-- THE LAW OF ONE BLOCK: lo a multiple of 2 W; s sorted in blocks of W; d is laid up to lo; then the merged block behind it. -/
theorem block_done {W q n lo mid hi : Nat} {s d d' : Nat → Int} (hW : 0 < W) (hlo : lo = q * (2 * W)) (hln : lo < n) (hmid : mid = min (lo + W) n) (hhi : hi = min (lo + 2 * W) n)
    (hs : Adj W s n) (hp : (seg d 0 lo).Perm (seg s 0 lo)) (hd : Adj (2 * W) d lo)
    (hT : seg d 0 lo ++ (seg s lo mid).merge (seg s mid hi) leI = seg d' 0 hi) :
    (seg d' 0 hi).Perm (seg s 0 hi) ∧ Adj (2 * W) d' hi := by
  have l1 : lo ≤ mid := by omega
  have l2 : mid ≤ hi := by omega
  have hmod : ∀ r, r < W → (lo + r) % W = r := fun r hr => by
    rw [hlo, show q * (2 * W) + r = W * (q * 2) + r from by rw [← Nat.mul_assoc, Nat.mul_comm W (q * 2)], Nat.mul_add_mod, Nat.mod_eq_of_lt hr]
  have hmod2 : ∀ r, r < W → (lo + W + r) % W = r := fun r hr => by
    rw [show lo + W + r = lo + r + W from by omega, Nat.add_mod_right, hmod r hr]
  have s1 : (seg s lo mid).Pairwise (· ≤ ·) := pair_of_adj (fun i h1 h2 => hs i (by omega) (by
    have := hmod (i + 1 - lo) (by omega)
    rw [show lo + (i + 1 - lo) = i + 1 from by omega] at this
    omega))
  have s2 : (seg s mid hi).Pairwise (· ≤ ·) := by
    by_cases h : lo + W ≤ n
    · exact pair_of_adj (fun i h1 h2 => hs i (by omega) (by
        have := hmod2 (i + 1 - (lo + W)) (by omega)
        rw [show lo + W + (i + 1 - (lo + W)) = i + 1 from by omega] at this
        omega))
    · rw [seg_none s (by omega)]; exact List.Pairwise.nil
  have sM : ((seg s lo mid).merge (seg s mid hi) leI).Pairwise (· ≤ ·) := by
    have := List.pairwise_merge leI_trans leI_total (seg s lo mid) (seg s mid hi) (s1.imp (fun h => by simpa [leI] using h)) (s2.imp (fun h => by simpa [leI] using h))
    exact this.imp (fun h => by simpa [leI] using h)
  rw [seg_append d' (Nat.zero_le lo) (by omega : lo ≤ hi)] at hT
  have hl : (seg d 0 lo).length = (seg d' 0 lo).length := by rw [seg_length, seg_length]
  obtain ⟨e1, e2⟩ := List.append_inj hT hl
  constructor
  · rw [seg_append d' (Nat.zero_le lo) (by omega : lo ≤ hi), seg_append s (Nat.zero_le lo) (by omega : lo ≤ hi), ← e1, ← e2]
    refine hp.append ?_
    rw [seg_append s l1 l2]
    exact List.merge_perm_append leI
  · intro i h1 h2
    by_cases h : i + 1 < lo
    · have a1 := hd i h h2
      have g1 := seg_get d 0 lo i (by omega)
      have g2 := seg_get d 0 lo (i + 1) (by omega)
      rw [e1, seg_get d' 0 lo i (by omega)] at g1
      rw [e1, seg_get d' 0 lo (i + 1) (by omega)] at g2
      have g1' := Option.some.inj g1
      have g2' := Option.some.inj g2
      rw [Nat.zero_add] at g1' g2'
      rw [g1', g2']
      exact a1
    · by_cases h' : i + 1 = lo
      · exfalso
        apply h2
        rw [h', hlo]
        exact Nat.mul_mod_left _ _
      · rw [e2] at sM
        exact adj_of_pair sM i (by omega) h1
end Go.Proofs.Qxb6602950a
