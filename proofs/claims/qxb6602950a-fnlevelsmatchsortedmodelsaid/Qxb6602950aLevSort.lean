/- WORK: slices.Sort over a row that the call owns. -/
import Derived.Test.Qxb6602950aShelf
import Derived.Sort.OwnSortedInts
namespace Go.Proofs.Qxb6602950a
open Go.Sort

theorem sort_own (B : Nat) (tv : Value) (S : List Int) (w : World) (hS : S.length ≤ 1048576) (ho : w.ownsRow B 2 1 tv S.length (S.map (Value.int .i64))) :
    Calls Try.prog 18 #[tv] w fun e w' => e = .returned (.tuple #[]) ∧ w'.ownsRow B 2 1 tv S.length ((S.mergeSort fun x y => decide (x ≤ y)).map (Value.int .i64)) ∧ w.grownBy w' tv.ownBlock := by
  rcases ho.2 with ⟨h1, h2⟩ | ⟨g, cap, cur, rfl, hB, hb, h1, h2, h3, h4⟩
  · obtain rfl : S = [] := List.eq_nil_of_length_eq_zero h2
    subst h1
    refine (Try.slices_Sort_none none 0 w).mono ?_
    rintro e w' ⟨rfl, rfl⟩
    exact ⟨rfl, by simpa using ho, ⟨rfl, rfl, rfl, Nat.le_refl _, fun _ _ _ => rfl⟩⟩
  · have hH : Holds (Value.int .i64) w g 0 S.toArray := holds_of_blockI hb (by simpa using h4)
    have hgl : g < w.heap.size := (Array.getElem?_eq_some_iff.1 hb).1
    refine (Try.slices_Sort g 0 cap S w hH hgl (by omega)).mono ?_
    rintro e w' ⟨rfl, n, os, rfl⟩
    exact ⟨rfl, ownsRow_sortedI (by simp) hB hb h1 h2 h3, grownBy_sortedI _⟩
end Go.Proofs.Qxb6602950a
