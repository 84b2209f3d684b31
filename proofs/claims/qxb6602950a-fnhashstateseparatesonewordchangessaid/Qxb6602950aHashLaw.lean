/- WORK: the plain law of the hash: no Go in sight. -/
namespace Go.Proofs.Qxb6602950a.Hash

def prime : UInt64 := 1099511628211
def seed : UInt64 := 14695981039346656037
def mix (h x : UInt64) : UInt64 := (h ^^^ x) * prime
def fold (h : UInt64) (l : List UInt64) : UInt64 := l.foldl mix h
def fin1 (h : UInt64) : UInt64 := (h ^^^ (h >>> 30)) * 13787848793156543929
def fin2 (h : UInt64) : UInt64 := (h ^^^ (h >>> 27)) * 10723151780598845931
def fin3 (h : UInt64) : UInt64 := h ^^^ (h >>> 31)
def fin (h : UInt64) : UInt64 := fin3 (fin2 (fin1 h))

theorem mul_inj (p q : UInt64) (hpq : p * q = 1) {a b : UInt64} (h : a * p = b * p) : a = b := by
  have h2 : a * p * q = b * p * q := by rw [h]
  rw [UInt64.mul_assoc, UInt64.mul_assoc, hpq, UInt64.mul_one, UInt64.mul_one] at h2
  exact h2
theorem xor_inj {a b x : UInt64} (h : a ^^^ x = b ^^^ x) : a = b := by
  have h2 : a ^^^ x ^^^ x = b ^^^ x ^^^ x := by rw [h]
  simpa [UInt64.xor_assoc] using h2
theorem mix_inj {a b x : UInt64} (h : mix a x = mix b x) : a = b :=
  xor_inj (mul_inj prime 14886173955864302971 (by decide) h)
theorem mix_inj_right {h x y : UInt64} (e : mix h x = mix h y) : x = y := by
  have := mul_inj prime 14886173955864302971 (by decide) e
  rw [UInt64.xor_comm h x, UInt64.xor_comm h y] at this
  exact xor_inj this
theorem fold_inj (l : List UInt64) {a b : UInt64} (h : fold a l = fold b l) : a = b := by
  induction l generalizing a b with
  | nil => exact h
  | cons x l ih => exact mix_inj (ih h)
theorem fold_append (h : UInt64) (l m : List UInt64) : fold h (l ++ m) = fold (fold h l) m := by simp [fold, List.foldl_append]
/-- ONE WORD CHANGED: the fold changes. -/
theorem fold_set (h : UInt64) (l : List UInt64) (i : Nat) (hi : i < l.length) (y : UInt64) (hy : l[i] ≠ y) : fold h l ≠ fold h (l.set i y) := by
  intro e
  have e1 : l = l.take i ++ l[i] :: l.drop (i + 1) := by simp
  have e2 : l.set i y = l.take i ++ y :: l.drop (i + 1) := by rw [List.set_eq_take_append_cons_drop, if_pos hi]
  rw [e2] at e
  rw [fold_append] at e
  have e3 : fold h l = fold (fold h (l.take i)) (l[i] :: l.drop (i + 1)) := by rw [← fold_append, ← e1]
  rw [e3] at e
  exact hy (mix_inj_right (fold_inj _ e))

theorem shr_inj (s : UInt64) (hs : 0 < s.toNat) (hs' : s.toNat < 64) {a b : UInt64} (h : a ^^^ (a >>> s) = b ^^^ (b >>> s)) : a = b := by
  have h1 : a ^^^ b = (a ^^^ b) >>> s := by
    have : a ^^^ b = (a >>> s) ^^^ (b >>> s) := by
      have e : a ^^^ (a >>> s) ^^^ (b ^^^ (a >>> s)) = b ^^^ (b >>> s) ^^^ (b ^^^ (a >>> s)) := by rw [h]
      have l1 : a ^^^ (a >>> s) ^^^ (b ^^^ (a >>> s)) = a ^^^ b := by
        rw [UInt64.xor_assoc, ← UInt64.xor_assoc (a >>> s), UInt64.xor_comm (a >>> s) b, UInt64.xor_assoc b, UInt64.xor_self, UInt64.xor_zero]
      have l2 : b ^^^ (b >>> s) ^^^ (b ^^^ (a >>> s)) = (a >>> s) ^^^ (b >>> s) := by
        rw [UInt64.xor_comm b (b >>> s), UInt64.xor_assoc, ← UInt64.xor_assoc b b, UInt64.xor_self, UInt64.zero_xor, UInt64.xor_comm]
      rw [l1, l2] at e; exact e
    rw [UInt64.shiftRight_xor]; exact this
  have h2 : (a ^^^ b).toNat = (a ^^^ b).toNat / 2 ^ s.toNat := by
    have := congrArg UInt64.toNat h1
    rw [UInt64.toNat_shiftRight, Nat.mod_eq_of_lt hs', Nat.shiftRight_eq_div_pow] at this
    exact this
  have h3 : (a ^^^ b).toNat = 0 := by
    rcases Nat.eq_zero_or_pos (a ^^^ b).toNat with h | h
    · exact h
    · have : (a ^^^ b).toNat / 2 ^ s.toNat < (a ^^^ b).toNat := Nat.div_lt_self h (Nat.one_lt_two_pow (by omega))
      omega
  have h4 : a ^^^ b = 0 := UInt64.toNat_inj.1 (by simpa using h3)
  have h5 : a ^^^ b ^^^ b = 0 ^^^ b := by rw [h4]
  rw [UInt64.xor_assoc, UInt64.xor_self, UInt64.xor_zero, UInt64.zero_xor] at h5
  exact h5
theorem fin_inj {a b : UInt64} (h : fin a = fin b) : a = b := by
  have h1 := shr_inj 31 (by decide) (by decide) h
  have h2 := shr_inj 27 (by decide) (by decide) (mul_inj 10723151780598845931 3573116690164977347 (by decide) h1)
  exact shr_inj 30 (by decide) (by decide) (mul_inj 13787848793156543929 10871156337175269513 (by decide) h2)
end Go.Proofs.Qxb6602950a.Hash
