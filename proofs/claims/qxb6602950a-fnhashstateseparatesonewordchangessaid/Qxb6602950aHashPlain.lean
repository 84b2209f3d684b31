/- WORK: one number of a state changed: the hash changes. -/
import Derived.Test.Qxb6602950aHashWord
namespace Go.Proofs.Qxb6602950a

theorem lv_length (f g : Nat → Int) (n : Nat) : (lv f g n).length = 2 * n := by
  induction n with
  | zero => rfl
  | succ n ih => simp only [lv, List.length_append, ih, List.length_cons, List.length_nil]; omega
theorem lv_congr {f f' g g' : Nat → Int} {n : Nat} (h : ∀ i, i < n → wd (f i) = wd (f' i)) (h' : ∀ i, i < n → wd (g i) = wd (g' i)) : lv f g n = lv f' g' n := by
  induction n with
  | zero => rfl
  | succ n ih => rw [lv, lv, ih (fun i hi => h i (by omega)) (fun i hi => h' i (by omega)), h n (by omega), h' n (by omega)]
theorem lv_even (f g : Nat → Int) (n i : Nat) (h : i < n) : (lv f g n)[2 * i]? = some (wd (f i)) := by
  induction n with
  | zero => omega
  | succ n ih =>
    rw [lv]
    by_cases e : i = n
    · subst e
      rw [List.getElem?_append_right (by rw [lv_length]; exact Nat.le_refl _), lv_length]
      simp
    · rw [List.getElem?_append_left (by rw [lv_length]; omega)]
      exact ih (by omega)
theorem lv_odd (f g : Nat → Int) (n i : Nat) (h : i < n) : (lv f g n)[2 * i + 1]? = some (wd (g i)) := by
  induction n with
  | zero => omega
  | succ n ih =>
    rw [lv]
    by_cases e : i = n
    · subst e
      rw [List.getElem?_append_right (by rw [lv_length]; omega), lv_length]
      have : 2 * i + 1 - 2 * i = 1 := by omega
      rw [this]; rfl
    · rw [List.getElem?_append_left (by rw [lv_length]; omega)]
      exact ih (by omega)
theorem words_length (a b c d : Int) (f g : Nat → Int) (n : Nat) (u v : UInt64) : (words a b c d f g n u v).length = 6 + 2 * n := by
  simp only [words, List.length_append, lv_length, List.length_cons, List.length_nil]; omega
theorem wordAt_mid (a b c d : Int) (f g : Nat → Int) (n : Nat) (u v : UInt64) (i : Nat) (h : i < n) :
    wordAt a b c d f g n u v (4 + 2 * i) = wd (f i) ∧ wordAt a b c d f g n u v (4 + 2 * i + 1) = wd (g i) := by
  constructor
  · unfold wordAt
    rw [if_neg (by omega), if_neg (by omega), if_neg (by omega), if_neg (by omega), if_pos (by omega), if_pos (by omega)]
    rw [show (4 + 2 * i - 4) / 2 = i from by omega]
  · unfold wordAt
    rw [if_neg (by omega), if_neg (by omega), if_neg (by omega), if_neg (by omega), if_pos (by omega), if_neg (by omega)]
    rw [show (4 + 2 * i + 1 - 4) / 2 = i from by omega]
theorem wordAt_end (a b c d : Int) (f g : Nat → Int) (n : Nat) (u v : UInt64) : wordAt a b c d f g n u v (4 + 2 * n) = u ∧ wordAt a b c d f g n u v (5 + 2 * n) = v := by
  constructor
  · unfold wordAt
    rw [if_neg (by omega), if_neg (by omega), if_neg (by omega), if_neg (by omega), if_neg (by omega), if_pos rfl]
  · unfold wordAt
    rw [if_neg (by omega), if_neg (by omega), if_neg (by omega), if_neg (by omega), if_neg (by omega), if_neg (by omega)]
theorem words_get (a b c d : Int) (f g : Nat → Int) (n : Nat) (u v : UInt64) (p : Nat) (hp : p < 6 + 2 * n) : (words a b c d f g n u v)[p]? = some (wordAt a b c d f g n u v p) := by
  rcases (show p = 0 ∨ p = 1 ∨ p = 2 ∨ p = 3 ∨ (∃ i, i < n ∧ p = 4 + 2 * i) ∨ (∃ i, i < n ∧ p = 4 + 2 * i + 1) ∨ p = 4 + 2 * n ∨ p = 5 + 2 * n from by
    by_cases h : p < 4
    · omega
    by_cases h' : p < 4 + 2 * n
    · by_cases h2 : p % 2 = 0
      · exact .inr (.inr (.inr (.inr (.inl ⟨(p - 4) / 2, by omega, by omega⟩))))
      · exact .inr (.inr (.inr (.inr (.inr (.inl ⟨(p - 4) / 2, by omega, by omega⟩)))))
    · omega) with rfl | rfl | rfl | rfl | ⟨i, hi, rfl⟩ | ⟨i, hi, rfl⟩ | rfl | rfl
  · simp [words, wordAt]
  · simp [words, wordAt]
  · simp [words, wordAt]
  · simp [words, wordAt]
  · rw [(wordAt_mid a b c d f g n u v i hi).1, words, List.append_assoc, List.getElem?_append_right (by simp), List.getElem?_append_left (by simp [lv_length]; omega)]
    have : 4 + 2 * i - [wd a, wd b, wd c, wd d].length = 2 * i := by simp
    rw [this, lv_even _ _ _ _ hi]
  · rw [(wordAt_mid a b c d f g n u v i hi).2, words, List.append_assoc, List.getElem?_append_right (by simp; omega), List.getElem?_append_left (by simp [lv_length]; omega)]
    have : 4 + 2 * i + 1 - [wd a, wd b, wd c, wd d].length = 2 * i + 1 := by simp; omega
    rw [this, lv_odd _ _ _ _ hi]
  · rw [(wordAt_end a b c d f g n u v).1, words, List.getElem?_append_right (by simp [lv_length]; omega)]
    have : 4 + 2 * n - ([wd a, wd b, wd c, wd d] ++ lv f g n).length = 0 := by simp [lv_length]; omega
    rw [this]; rfl
  · rw [(wordAt_end a b c d f g n u v).2, words, List.getElem?_append_right (by simp [lv_length]; omega)]
    have : 5 + 2 * n - ([wd a, wd b, wd c, wd d] ++ lv f g n).length = 1 := by simp [lv_length]; omega
    rw [this]; rfl

/-- TWO STATES WHOSE WORDS ARE ALIKE BUT AT p. -/
theorem hash_ne (l m : List UInt64) (p : Nat) (hl : l.length = m.length) (hp : p < l.length) (h : ∀ q, q < l.length → q ≠ p → l[q]? = m[q]?) (hne : l[p]? ≠ m[p]?) :
    (Hash.fin (Hash.fold Hash.seed l)).toNat ≠ (Hash.fin (Hash.fold Hash.seed m)).toNat := by
  intro e
  have e1 := Hash.fin_inj (UInt64.toNat_inj.1 e)
  have hm : m = l.set p m[p] := by
    apply List.ext_getElem?
    intro q
    rw [List.getElem?_set]
    by_cases hq : p = q
    · subst hq; simp [hp]
    · rw [if_neg hq]
      by_cases hq2 : q < l.length
      · exact (h q hq2 (fun h => hq h.symm)).symm
      · rw [List.getElem?_eq_none (by omega), List.getElem?_eq_none (by omega)]
  rw [hm] at e1
  refine Hash.fold_set Hash.seed l p hp m[p] (fun h2 => hne ?_) e1
  rw [List.getElem?_eq_getElem hp, List.getElem?_eq_getElem (by omega), h2]

/-- THE PLAIN LAW: the words of the second state are those of the first but for the p-th, which is W. -/
theorem plain {a b c d a' b' c' d' : Int} {f g f' g' : Nat → Int} {n : Nat} {u v u' v' W : UInt64} {p : Nat} (hp : p < 6 + 2 * n)
    (hW : wordAt a b c d f g n u v p ≠ W) (h : ∀ q, q < 6 + 2 * n → wordAt a' b' c' d' f' g' n u' v' q = if q = p then W else wordAt a b c d f g n u v q) :
    (((Hash.fin (Hash.fold Hash.seed (words a b c d f g n u v))).toNat : Int) != ((Hash.fin (Hash.fold Hash.seed (words a' b' c' d' f' g' n u' v'))).toNat : Int)) = true := by
  rw [bne_iff_ne]
  intro e
  have e' := Int.ofNat.inj e
  refine hash_ne _ _ p (by rw [words_length, words_length]) (by rw [words_length]; exact hp) (fun q hq hne => ?_) ?_ e'
  · rw [words_length] at hq
    rw [words_get _ _ _ _ _ _ _ _ _ _ hq, words_get _ _ _ _ _ _ _ _ _ _ hq, h q hq, if_neg hne]
  · rw [words_get _ _ _ _ _ _ _ _ _ _ hp, words_get _ _ _ _ _ _ _ _ _ _ hp, h p hp, if_pos rfl]
    intro e2
    exact hW (Option.some.inj e2)
theorem wd_wrap (W : UInt64) (x : Int) (h : x % 18446744073709551616 = (W.toNat : Int)) : wd x = W := by
  apply UInt64.toNat_inj.1
  have := wd_toNat x
  omega
open Go.RowKit
theorem wd_i64 (W : UInt64) : wd (wrap64 (W.toNat : Int)) = W := by
  apply wd_wrap
  have := toNat_lt' W
  unfold wrap64
  omega
def upd (f : Nat → Int) (k : Nat) (y : Int) : Nat → Int := fun j => if j = k then y else f j
section
variable (a b c d : Int) (f g : Nat → Int) (n : Nat) (u v W : UInt64)
theorem bne0 (hW : wordAt a b c d f g n u v 0 ≠ W) :
    (((Hash.fin (Hash.fold Hash.seed (words a b c d f g n u v))).toNat : Int) != ((Hash.fin (Hash.fold Hash.seed (words (wrap64 W.toNat) b c d f g n u v))).toNat : Int)) = true := by
  refine plain (p := 0) (by omega) hW (fun q hq => ?_)
  by_cases h : q = 0
  · simp [h, wordAt, wd_i64]
  · simp [h, wordAt]
theorem bne1 (hW : wordAt a b c d f g n u v 1 ≠ W) :
    (((Hash.fin (Hash.fold Hash.seed (words a b c d f g n u v))).toNat : Int) != ((Hash.fin (Hash.fold Hash.seed (words a (wrap64 W.toNat) c d f g n u v))).toNat : Int)) = true := by
  refine plain (p := 1) (by omega) hW (fun q hq => ?_)
  by_cases h : q = 1
  · simp [h, wordAt, wd_i64]
  · simp [h, wordAt]
theorem bne2 (hW : wordAt a b c d f g n u v 2 ≠ W) :
    (((Hash.fin (Hash.fold Hash.seed (words a b c d f g n u v))).toNat : Int) != ((Hash.fin (Hash.fold Hash.seed (words a b (wrap64 W.toNat) d f g n u v))).toNat : Int)) = true := by
  refine plain (p := 2) (by omega) hW (fun q hq => ?_)
  by_cases h : q = 2
  · simp [h, wordAt, wd_i64]
  · simp [h, wordAt]
theorem bne3 (hW : wordAt a b c d f g n u v 3 ≠ W) :
    (((Hash.fin (Hash.fold Hash.seed (words a b c d f g n u v))).toNat : Int) != ((Hash.fin (Hash.fold Hash.seed (words a b c (wrap64 W.toNat) f g n u v))).toNat : Int)) = true := by
  refine plain (p := 3) (by omega) hW (fun q hq => ?_)
  by_cases h : q = 3
  · simp [h, wordAt, wd_i64]
  · simp [h, wordAt]
theorem bneT (p : Nat) (h4 : 4 ≤ p) (h5 : p < 4 + 2 * n) (he : ((p : Int) - 4) % 2 = 0) (hW : wordAt a b c d f g n u v p ≠ W) :
    (((Hash.fin (Hash.fold Hash.seed (words a b c d f g n u v))).toNat : Int) != ((Hash.fin (Hash.fold Hash.seed (words a b c d (upd f ((p - 4) / 2) (wrap64 W.toNat)) g n u v))).toNat : Int)) = true := by
  refine plain (p := p) (by omega) hW (fun q hq => ?_)
  by_cases h : q = p
  · subst h
    rw [if_pos rfl]
    unfold wordAt
    rw [if_neg (by omega), if_neg (by omega), if_neg (by omega), if_neg (by omega), if_pos h5, if_pos (by omega), upd, if_pos rfl, wd_i64]
  · rw [if_neg h]
    unfold wordAt
    by_cases h1 : q < 4 + 2 * n
    · by_cases h2 : (q - 4) % 2 = 0
      · by_cases h3 : q < 4
        · rcases (show q = 0 ∨ q = 1 ∨ q = 2 ∨ q = 3 from by omega) with rfl | rfl | rfl | rfl <;> simp
        · have : upd f ((p - 4) / 2) (wrap64 W.toNat) ((q - 4) / 2) = f ((q - 4) / 2) := if_neg (by omega)
          simp only [this]
      · simp only [if_neg h2]
    · simp only [if_neg h1]
theorem bneD (p : Nat) (h4 : 4 ≤ p) (h5 : p < 4 + 2 * n) (he : ((p : Int) - 4) % 2 = 1) (hW : wordAt a b c d f g n u v p ≠ W) :
    (((Hash.fin (Hash.fold Hash.seed (words a b c d f g n u v))).toNat : Int) != ((Hash.fin (Hash.fold Hash.seed (words a b c d f (upd g ((p - 4) / 2) (wrap64 W.toNat)) n u v))).toNat : Int)) = true := by
  refine plain (p := p) (by omega) hW (fun q hq => ?_)
  by_cases h : q = p
  · subst h
    rw [if_pos rfl]
    unfold wordAt
    rw [if_neg (by omega), if_neg (by omega), if_neg (by omega), if_neg (by omega), if_pos h5, if_neg (by omega), upd, if_pos rfl, wd_i64]
  · rw [if_neg h]
    unfold wordAt
    by_cases h1 : q < 4 + 2 * n
    · by_cases h2 : (q - 4) % 2 = 0
      · simp only [if_pos h2]
      · by_cases h3 : q < 4
        · rcases (show q = 0 ∨ q = 1 ∨ q = 2 ∨ q = 3 from by omega) with rfl | rfl | rfl | rfl <;> simp
        · have : upd g ((p - 4) / 2) (wrap64 W.toNat) ((q - 4) / 2) = g ((q - 4) / 2) := if_neg (by omega)
          simp only [this]
    · simp only [if_neg h1]
theorem bneU (hW : wordAt a b c d f g n u v (4 + 2 * n) ≠ W) :
    (((Hash.fin (Hash.fold Hash.seed (words a b c d f g n u v))).toNat : Int) != ((Hash.fin (Hash.fold Hash.seed (words a b c d f g n W v))).toNat : Int)) = true := by
  refine plain (p := 4 + 2 * n) (by omega) hW (fun q hq => ?_)
  by_cases h : q = 4 + 2 * n
  · subst h
    rw [if_pos rfl, (wordAt_end a b c d f g n W v).1]
  · rw [if_neg h]
    unfold wordAt
    simp only [if_neg h]
theorem bneV (hW : wordAt a b c d f g n u v (5 + 2 * n) ≠ W) :
    (((Hash.fin (Hash.fold Hash.seed (words a b c d f g n u v))).toNat : Int) != ((Hash.fin (Hash.fold Hash.seed (words a b c d f g n u W))).toNat : Int)) = true := by
  refine plain (p := 5 + 2 * n) (by omega) hW (fun q hq => ?_)
  by_cases h : q = 5 + 2 * n
  · subst h
    rw [if_pos rfl, (wordAt_end a b c d f g n u W).2]
  · rw [if_neg h]
    unfold wordAt
    by_cases h1 : q < 4 + 2 * n
    · simp only [if_pos h1]
    · have h2 : q = 4 + 2 * n := by omega
      simp only [if_pos h2]
end
end Go.Proofs.Qxb6602950a
