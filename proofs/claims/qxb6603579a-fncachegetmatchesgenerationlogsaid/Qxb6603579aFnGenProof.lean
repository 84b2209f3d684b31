/- THE ROW OF FnCacheGetMatchesGenerationLog (after the guide's own way with 'Below'). -/
import Derived.Test.Qxb6603579aRows
import Derived.WalkKit
import Derived.ProofKit
import Derived.OpenShut
import Derived.ShutString
import Derived.ChangeOld
import Derived.Below
import Derived.SliceStrings
import Derived.Deep.Grids
import Derived.Test.Qxb6603579aGen
namespace Go.Proofs.Qxb6603579a.fnCacheGetMatchesGenerationLog
open Go.ChangeShapes Go.WideShapes Go.ChangeAt Go.RowKit
open Go.ChangeMaps (open_string shut_string)
set_option linter.unusedVariables false

theorem own : ownKnob Try.prog.godebug = none := by kernel_rfl
theorem laidOut : laidOutB Try.prog = true := by kernel_rfl

/-- What the walk is told of a slice of strings that came in. -/
theorem strs_of {H : Type} {enc : TypeId × Value → H} {W : World} {a : Option Addr} {len cap fuel : Nat} {x : DataW H × List MemPlace}
    (hf : DataW.trod enc Try.prog W 0 (fun _ => true) true fuel 22 [.slice a len cap] = some x) :
    ∃ f : Nat → ByteArray, Own W a len f ∧ len ≤ 9223372036854775807 ∧ (∀ i, i < len → (f i).size ≤ 9223372036854775807) ∧ (a = none → len = 0 ∧ cap = 0) := by
  rcases open_strings Try.underlying22 Try.underlying9 (by kernel_rfl) hf with ⟨hcs, _⟩ | ⟨y, l, c, ss, hcs, _, hl, hm, hz, _, hcell, hwz⟩
  · simp at hcs
    obtain ⟨rfl, rfl, rfl⟩ := hcs
    exact ⟨fun _ => ByteArray.empty, .inl rfl, by omega, fun i hi => by omega, fun _ => ⟨rfl, rfl⟩⟩
  · simp at hcs
    obtain ⟨rfl, rfl, rfl⟩ := hcs
    simp only [if_true] at hz
    unfold maxLen at hm hwz
    refine ⟨fun i => ss.getD i ByteArray.empty, ?_, by omega, fun i hi => ?_, fun e => by cases e⟩
    · by_cases h0 : len = 0
      · exact .inl h0
      · refine .inr ⟨y, rfl, ?_, fun i hi => hcell i (by omega)⟩
        have := cell_lt (hcell 0 (by omega))
        rw [add_block] at this
        exact this
    · have : ss.getD i ByteArray.empty ∈ ss := by
        rw [List.getD_eq_getElem?_getD, List.getElem?_eq_getElem (by omega)]
        exact List.getElem_mem _
      exact hwz _ this

/-- .. of a slice of bools. -/
theorem bools_of {H : Type} {enc : TypeId × Value → H} {W : World} {a : Option Addr} {len cap fuel : Nat} {x : DataW H × List MemPlace}
    (hf : DataW.trod enc Try.prog W 0 (fun _ => true) true fuel 23 [.slice a len cap] = some x) :
    ∃ f : Nat → Bool, OwnB W a len f ∧ len ≤ 9223372036854775807 ∧ (a = none → len = 0 ∧ cap = 0) := by
  rcases Go.Deep.open_bools Try.underlying23 Try.underlying4 (by kernel_rfl) hf with ⟨hcs, _⟩ | ⟨y, l, c, ss, hcs, _, hl, hm, _, hcell⟩
  · simp at hcs
    obtain ⟨rfl, rfl, rfl⟩ := hcs
    exact ⟨fun _ => false, .inl rfl, by omega, fun _ => ⟨rfl, rfl⟩⟩
  · simp at hcs
    obtain ⟨rfl, rfl, rfl⟩ := hcs
    unfold maxLen at hm
    refine ⟨ss, ?_, by omega, fun e => by cases e⟩
    by_cases h0 : len = 0
    · exact .inl h0
    · refine .inr ⟨y, rfl, ?_, fun i hi => hcell i (by omega)⟩
      have := cell_lt (hcell 0 (by omega))
      rw [add_block] at this
      exact this

set_option maxRecDepth 100000 in
theorem lifted (os : Os) (started : os.Started) (H : Type) (enc : TypeId × Value → H) :
    ReturnsInHanded {} Try.checked os 3 .any (Rows.fnCacheGetMatchesGenerationLogSpec.pre6 enc Try.prog Try.f3 Rows.fnCacheGetMatchesGenerationLogRow.domain false) (Rows.fnCacheGetMatchesGenerationLogSpec.post enc Try.prog Try.f3 false true false false) := by
  refine returnsInHanded_of_change (C := Try.checked) own started (by kernel_rfl) Try.func3
    (ChangeSpec.witness6 (enc := enc) (C := Try.checked) false ⟨#[], #[.int .i64 0, .slice none 0 0, .slice none 0 0, .slice none 0 0], []⟩ 8 (by kernel_rfl) (by kernel_rfl) (by kernel_rfl) (by kernel_rfl)) ?_
  intro W base args ds gs before hval0 hW hcnd _
  have hval : ∀ (j : Nat) t v, Try.f3.params[j]? = some t → args[j]? = some v → Value.okWide Try.prog W .any base t v := hval0
  have hW' := hW
  obtain ⟨p, q, hA0, hV, rfl, hfz, hnd⟩ := hW
  have hA : DataW.TrodAll enc Try.prog W 0 (fun _ => true) true Try.f3.params.toList args.toList ds p := hA0
  rw [Try.params3] at hA hval
  obtain ⟨v0, vs0, d0, ds0, p0, q0, hargs, rfl, rfl, h0, r0⟩ := trodAll_cons hA
  obtain ⟨v1, vs1, d1, ds1, p1, q1, rfl, rfl, rfl, h1, r1⟩ := trodAll_cons r0
  obtain ⟨v2, vs2, d2, ds2, p2, q2, rfl, rfl, rfl, h2, r2⟩ := trodAll_cons r1
  obtain ⟨v3, vs3, d3, ds3, p3, q3, rfl, rfl, rfl, h3, r3⟩ := trodAll_cons r2
  obtain ⟨rfl, rfl, rfl⟩ := trodAll_nil r3
  obtain rfl : args = #[v0, v1, v2, v3] := by cases args; simp_all
  obtain ⟨rfl, rfl⟩ := trodVars_none hV
  obtain ⟨a0, rfl, rfl, rfl, w0⟩ := open_int Try.underlying3 (hval 0 3 v0 rfl rfl) h0
  obtain ⟨a1, len1, cap1, rfl⟩ := okWide_slice Try.underlying22 (hval 1 22 v1 rfl rfl)
  have k1 := h1
  have lt1 : ∀ x ∈ p1, x.block < W.heap.size := by obtain ⟨m, hm⟩ := k1; exact DataW.trod_lt m _ _ _ hm
  obtain ⟨f, o1, n1, s1, nil1⟩ : ∃ f : Nat → ByteArray, Own W a1 len1 f ∧ len1 ≤ 9223372036854775807 ∧ (∀ i, i < len1 → (f i).size ≤ 9223372036854775807) ∧ (a1 = none → len1 = 0 ∧ cap1 = 0) := by
    obtain ⟨fuel, hf⟩ := h1
    exact strs_of (by simpa [Value.cells] using hf)
  obtain ⟨a2, len2, cap2, rfl⟩ := okWide_slice Try.underlying22 (hval 2 22 v2 rfl rfl)
  have k2 := h2
  have lt2 : ∀ x ∈ p2, x.block < W.heap.size := by obtain ⟨m, hm⟩ := k2; exact DataW.trod_lt m _ _ _ hm
  obtain ⟨g, o2, n2, s2, nil2⟩ : ∃ f : Nat → ByteArray, Own W a2 len2 f ∧ len2 ≤ 9223372036854775807 ∧ (∀ i, i < len2 → (f i).size ≤ 9223372036854775807) ∧ (a2 = none → len2 = 0 ∧ cap2 = 0) := by
    obtain ⟨fuel, hf⟩ := h2
    exact strs_of (by simpa [Value.cells] using hf)
  obtain ⟨a3, len3, cap3, rfl⟩ := okWide_slice Try.underlying23 (hval 3 23 v3 rfl rfl)
  have k3 := h3
  have lt3 : ∀ x ∈ p3, x.block < W.heap.size := by obtain ⟨m, hm⟩ := k3; exact DataW.trod_lt m _ _ _ hm
  obtain ⟨bs, o3, n3, nil3⟩ : ∃ f : Nat → Bool, OwnB W a3 len3 f ∧ len3 ≤ 9223372036854775807 ∧ (a3 = none → len3 = 0 ∧ cap3 = 0) := by
    obtain ⟨fuel, hf⟩ := h3
    exact bools_of (by simpa [Value.cells] using hf)
  clear hA0 hval0
  refine (gen_any a0 a1 a2 a3 len1 cap1 len2 cap2 len3 cap3 f g bs W w0 n1 n2 n3 o1 o2 o3 s1 s2 nil1 nil2 nil3).mono fun e W' ⟨he, bel⟩ => ?_
  subst he
  exact ⟨_, rfl, _, _, _, [], _, [], hW', trodAll_mk1 (shut_bool Try.underlying4 _), (trodAll_cons_mk (shut_int Try.underlying3 w0) (trodAll_cons_mk (Below.trod laidOut (by kernel_rfl) (of_decide_eq_true (by kernel_rfl)) k1 bel lt1) (trodAll_cons_mk (Below.trod laidOut (by kernel_rfl) (of_decide_eq_true (by kernel_rfl)) k2 bel lt2) (trodAll_cons_mk (Below.trod laidOut (by kernel_rfl) (of_decide_eq_true (by kernel_rfl)) k3 bel lt3) trodAll_mk0)))), rfl, bel.frame _, fun h => by cases h⟩

theorem over : Rows.fnCacheGetMatchesGenerationLogRow.holds Try.pinned (OpenSpec.ofChange Rows.fnCacheGetMatchesGenerationLogSpec) :=
  OpenClaim.holds_of_wide 3 Try.f3 rfl rfl rfl rfl rfl rfl rfl ⟨rfl, rfl, rfl, rfl, rfl⟩ rfl rfl rfl rfl rfl (by kernel_rfl) Try.func3 (by kernel_rfl)
    (of_decide_eq_true (by kernel_rfl)) (by unfold Func.isWrapper; first | (rw [if_pos (by decide +kernel)]; kernel_rfl) | (rw [if_neg (by decide +kernel)]; exact ⟨rfl, rfl⟩))
    (fun os started H enc _ => lifted os started H enc)

/-- THE STATEMENT. -/
theorem proved : Rows.FnCacheGetMatchesGenerationLogSaid := over
end Go.Proofs.Qxb6603579a.fnCacheGetMatchesGenerationLog
