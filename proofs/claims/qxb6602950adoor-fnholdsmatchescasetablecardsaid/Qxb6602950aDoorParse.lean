/- WORK: strconv.ParseInt at base 10 and 64 bits by the shelf; zzParseDecimal by a walk; both read one plain function. -/
import Derived.Test.Qxb6602950aDoorHolds
import Derived.Test.Qxb6602950aDoorShelf
import Derived.Lib.ParseIntBCases
namespace Go.Proofs.Qxb6602950aDoor
open Go.RowKit

/-- The int64 that a list of bytes spells, if it spells one. -/
def toOpt : Lib.NumEnd Int → Option Int
  | .ok v => some v
  | _ => none
def rd (l : List UInt8) : Option Int := toOpt (Lib.parseIntB 64 l)

/-- The two sentinels' cells hold errors. -/
def Errs (w : World) : Prop := (∃ tp p, w.cell? ⟨0, 0, none⟩ = some (.iface tp p)) ∧ (∃ tp p, w.cell? ⟨1, 0, none⟩ = some (.iface tp p))
theorem Errs.below {w w' : World} (h : Errs w) (hb : Below w.heap.size w w') : Errs w' := by
  obtain ⟨⟨t0, p0, h0⟩, t1, p1, h1⟩ := h
  exact ⟨⟨t0, p0, (hb.cell (cell_lt h0)).trans h0⟩, t1, p1, (hb.cell (cell_lt h1)).trans h1⟩

theorem parse_any (s : ByteArray) (hs : s.size ≤ 1048576) (w : World) (he : Errs w) :
    Calls Tryd.prog 19 #[.string s, .int .i64 10, .int .i64 64] w fun e w' =>
      ((∃ v, rd s.data.toList = some v ∧ e = .returned (.tuple #[.int .i64 v, .nilIface])) ∨ (rd s.data.toList = none ∧ ∃ x N, e = .returned (.tuple #[.int .i64 x, .iface 49 (.pointer (some ⟨N, 0, none⟩))]))) ∧ Below w.heap.size w w' := by
  obtain ⟨⟨t0, p0, h0⟩, t1, p1, h1⟩ := he
  cases h : Lib.parseIntB 64 s.data.toList with
  | ok v =>
    refine (Any.strconv_ParseInt_10_at64_ok Tryd.laysC174 s (by omega) v h w).mono ?_
    rintro e w' ⟨rfl, hw⟩
    refine ⟨.inl ⟨v, by rw [rd, h]; rfl, rfl⟩, ?_⟩
    rcases hw with rfl | ⟨t, rfl⟩
    · exact Below.refl _ _
    · exact Lib.bytesWorld_below _ _ _
  | _ =>
    have hr : rd s.data.toList = none := by rw [rd, h]; rfl
    first
    | (refine (Any.strconv_ParseInt_10_at64_range Tryd.laysC174 s (by omega) h (.iface t1 p1) w h1 (.inr ⟨_, _, rfl⟩)).mono ?_
       rintro e w' ⟨N, rfl, _, _, hb⟩
       exact ⟨.inr ⟨hr, _, N, rfl⟩, hb⟩)
    | (refine (Any.strconv_ParseInt_10_at64_syntax Tryd.laysC174 s (by omega) h (.iface t0 p0) w h0 (.inr ⟨_, _, rfl⟩)).mono ?_
       rintro e w' ⟨N, rfl, _, _, hb⟩
       exact ⟨.inr ⟨hr, _, N, rfl⟩, hb⟩)

/-- zzParseDecimal's loop. -/
def dec (lim : Nat) : Nat → List UInt8 → Option Nat
  | mag, [] => some mag
  | mag, c :: r => if c.toNat < 48 ∨ 57 < c.toNat then none else if (lim - (c.toNat - 48)) / 10 < mag then none else dec lim (mag * 10 + (c.toNat - 48)) r

def upto (lim : Nat) : Lib.NumEnd Nat → Option Nat
  | .ok u => if u ≤ lim then some u else none
  | _ => none
theorem grows (M : Nat) : ∀ (l : List UInt8) (acc u : Nat), Lib.parseUintM M acc l = .ok u → acc ≤ u
  | [], acc, u, h => by
    simp only [Lib.parseUintM] at h
    injection h with h
    omega
  | c :: r, acc, u, h => by
    simp only [Lib.parseUintM] at h
    split at h
    · split at h
      · cases h
      · split at h
        · cases h
        · have := grows M r _ u h
          omega
    · cases h
theorem dec_eq (lim : Nat) (h1 : 9 ≤ lim) (h2 : lim ≤ 9223372036854775808) : ∀ (l : List UInt8) (mag : Nat), mag ≤ lim → dec lim mag l = upto lim (Lib.parseUintM 18446744073709551615 mag l)
  | [], mag, hm => by simp [dec, Lib.parseUintM, upto, hm]
  | c :: r, mag, hm => by
    have hc : c.toNat < 256 := c.toNat_lt
    simp only [dec, Lib.parseUintM]
    by_cases hd : 48 ≤ c.toNat ∧ c.toNat ≤ 57
    · rw [if_neg (by omega), if_pos hd]
      by_cases hb : (lim - (c.toNat - 48)) / 10 < mag
      · rw [if_pos hb]
        have hbig : lim < mag * 10 + (c.toNat - 48) := by omega
        split
        · rfl
        · split
          · rfl
          · cases hp : Lib.parseUintM 18446744073709551615 (mag * 10 + (c.toNat - 48)) r with
            | ok u =>
              have := grows _ _ _ _ hp
              simp [upto]
              omega
            | _ => rfl
      · rw [if_neg hb, if_neg (by omega), if_neg (by omega)]
        exact dec_eq lim h1 h2 r _ (by omega)
    · rw [if_pos (by omega), if_neg hd]
      rfl

theorem less (e : Lib.NumEnd Nat) : toOpt (Lib.signlessC (2 ^ (64 - 1)) e) = (upto 9223372036854775807 e).map Int.ofNat := by
  cases e with
  | ok u =>
    by_cases hu : 9223372036854775808 ≤ u
    · rw [show Lib.signlessC (2 ^ (64 - 1)) (.ok u) = .range from if_pos hu, show upto 9223372036854775807 (.ok u) = none from if_neg (by omega)]
      rfl
    · rw [show Lib.signlessC (2 ^ (64 - 1)) (.ok u) = .ok (u : Int) from if_neg hu, show upto 9223372036854775807 (.ok u) = some u from if_pos (by omega)]
      rfl
  | _ => rfl
theorem sgn (e : Lib.NumEnd Nat) : toOpt (Lib.signedC (2 ^ (64 - 1)) e) = (upto 9223372036854775808 e).map (fun u : Nat => -(u : Int)) := by
  cases e with
  | ok u =>
    by_cases hu : 9223372036854775808 < u
    · rw [show Lib.signedC (2 ^ (64 - 1)) (.ok u) = .range from if_pos hu, show upto 9223372036854775808 (.ok u) = none from if_neg (by omega)]
      rfl
    · rw [show Lib.signedC (2 ^ (64 - 1)) (.ok u) = .ok (-(u : Int)) from if_neg hu, show upto 9223372036854775808 (.ok u) = some u from if_pos (by omega)]
      rfl
  | _ => rfl

/-- What a list of bytes spells, behind its sign. -/
theorem rd_nil : rd [] = none := rfl
theorem rd_plus (r : List UInt8) : rd (43 :: r) = if r = [] then none else (dec 9223372036854775807 0 r).map Int.ofNat := by
  rw [rd, Lib.parseIntB_plus, less]
  by_cases hr : r = []
  · rw [if_pos hr, hr]
    rfl
  · rw [if_neg hr, Lib.parseUintB, if_neg hr, dec_eq _ (by decide) (by decide) r 0 (by decide)]
theorem rd_plain (c : UInt8) (r : List UInt8) (h43 : c.toNat ≠ 43) (h45 : c.toNat ≠ 45) : rd (c :: r) = (dec 9223372036854775807 0 (c :: r)).map Int.ofNat := by
  rw [rd, Lib.parseIntB_plain 64 c r h43 h45, less, Lib.parseUintB, if_neg (by simp), dec_eq _ (by decide) (by decide) _ 0 (by decide)]
theorem rd_minus (r : List UInt8) : rd (45 :: r) = if r = [] then none else (dec 9223372036854775808 0 r).map (fun u : Nat => -(u : Int)) := by
  rw [rd, Lib.parseIntB_minus, sgn]
  by_cases hr : r = []
  · rw [if_pos hr, hr]
    rfl
  · rw [if_neg hr, Lib.parseUintB, if_neg hr, dec_eq _ (by decide) (by decide) r 0 (by decide)]

/-- How zzParseDecimal reads a list of bytes. -/
def neg (l : List UInt8) : Bool := decide (l.head?.map (·.toNat) = some 45)
def sg (l : List UInt8) : Nat := if l.head?.map (·.toNat) = some 43 ∨ l.head?.map (·.toNat) = some 45 then 1 else 0
def lm (l : List UInt8) : Nat := if neg l then 9223372036854775808 else 9223372036854775807
theorem rd_all (l : List UInt8) (h : sg l < l.length) : rd l = (dec (lm l) 0 (l.drop (sg l))).map (fun u : Nat => if neg l then -(u : Int) else (u : Int)) := by
  cases l with
  | nil => simp at h
  | cons c r =>
    by_cases h1 : c.toNat = 43
    · obtain rfl : c = 43 := UInt8.toNat_inj.1 h1
      have hr : r ≠ [] := by
        intro e
        subst e
        exact absurd h (by decide)
      have e1 : neg (43 :: r) = false := by simp [neg]
      have e2 : sg (43 :: r) = 1 := by simp [sg]
      rw [rd_plus, if_neg hr, lm, e1, e2]
      rfl
    · by_cases h2 : c.toNat = 45
      · obtain rfl : c = 45 := UInt8.toNat_inj.1 h2
        have hr : r ≠ [] := by
          intro e
          subst e
          exact absurd h (by decide)
        have e1 : neg (45 :: r) = true := by simp [neg]
        have e2 : sg (45 :: r) = 1 := by simp [sg]
        rw [rd_minus, if_neg hr, lm, e1, e2]
        rfl
      · have e1 : neg (c :: r) = false := by simp [neg, h2]
        have e2 : sg (c :: r) = 0 := by simp [sg, h1, h2]
        rw [rd_plain c r h1 h2, lm, e1, e2]
        rfl
theorem rd_short (l : List UInt8) (h : l.length ≤ sg l) : rd l = none := by
  cases l with
  | nil => rfl
  | cons c r =>
    have hr : r = [] := by
      have : sg (c :: r) ≤ 1 := by unfold sg; split <;> omega
      simp at h
      exact List.eq_nil_of_length_eq_zero (by omega)
    subst hr
    by_cases h1 : c.toNat = 43
    · obtain rfl : c = 43 := UInt8.toNat_inj.1 h1
      rw [rd_plus, if_pos rfl]
    · by_cases h2 : c.toNat = 45
      · obtain rfl : c = 45 := UInt8.toNat_inj.1 h2
        rw [rd_minus, if_pos rfl]
      · simp [sg, h1, h2] at h
end Go.Proofs.Qxb6602950aDoor
