/- THE ROW OF FnHoldsMatchesCaseTable, AND ITS TIED CARD (after the guide's MapyProofs.lean, MapyCard.lean). -/
import Derived.Test.Qxb6602950aDoorRows
import Derived.Test.Qxb6602950aDoorTie
import Derived.Test.Qxb6602950aDoorCards
import Derived.Test.Qxb6602950aDoorCase
import Derived.ProofKit
import Derived.LaidMore
import Derived.OpenShut
import Derived.ShutString
import Derived.ChangeOld
import Derived.Below
import Derived.SliceStrings
import Derived.Stop.Joined
import Derived.Stop.LaidErr
import Derived.LaidLaws
import Derived.SevenTiedAt
namespace Go.Proofs.Qxb6602950aDoor.fnHoldsMatchesCaseTable
open Go.ChangeShapes Go.WideShapes Go.ChangeAt Go.RowKit
open Go.ChangeMaps (open_string shut_string)
set_option linter.unusedVariables false

theorem own : ownKnob Tryd.prog.godebug = none := by kernel_rfl
theorem laidOut : laidOutB Tryd.prog = true := by kernel_rfl

/-- The door's own heap meets the condition. -/
theorem door_met (os : Os) (args : Array Value) : laidMetH Tryd.prog Rows.fnHoldsMatchesCaseTableRow.laid ((World.doorLaid Tryd.prog 62 os).forCall (fun _ _ => 0) ⟨#[], args, []⟩).memory :=
  laidMetH_of_parts3 (fuel := 8) (laidMet_of_run' 8 (by kernel_rfl) (by kernel_rfl)) (by kernel_rfl) (by kernel_rfl)

theorem gR : Tryd.prog.globalNamed "strconv.ErrRange" = some 1 := by kernel_rfl
theorem gS : Tryd.prog.globalNamed "strconv.ErrSyntax" = some 0 := by kernel_rfl
theorem gRT : (Tryd.prog.globals[1]?).map (·.type) = some 39 := by kernel_rfl
theorem gST : (Tryd.prog.globals[0]?).map (·.type) = some 39 := by kernel_rfl
theorem star : "*" ++ "errors.errorString" = "*errors.errorString" := by decide
theorem row61 (u : TypeId) (h : Tryd.prog.typeName? 3 u = some "*errors.errorString") : u = 61 :=
  typeName_ptr_named (nm := "errors.errorString") (by rw [star]; kernel_rfl) (by kernel_rfl) (by decide) u (by rw [star]; exact h)

/-- The laid condition gives the two sentinels' cells. -/
theorem errs_of {W : World} (h : laidMetH Tryd.prog Rows.fnHoldsMatchesCaseTableRow.laid W) : Errs W := by
  rw [MakeChecks.laidMetH_plain _ _ _ (by kernel_rfl)] at h
  have h3 := h.tail.tail.tail
  obtain ⟨a1, s1, hv1, hc1, hs1, hz1⟩ := laid_sentinel h3 gR gRT Tryd.underlying39 row61 Tryd.underlying61 Tryd.underlying63 rfl rfl Tryd.underlying9 (by kernel_rfl) (by kernel_rfl)
  obtain ⟨a2, s2, hv2, hc2, hs2, hz2⟩ := laid_sentinel h3.tail gS gST Tryd.underlying39 row61 Tryd.underlying61 Tryd.underlying63 rfl rfl Tryd.underlying9 (by kernel_rfl) (by kernel_rfl)
  exact ⟨⟨_, _, by simpa using World.var?_cell gS hv2 0⟩, _, _, by simpa using World.var?_cell gR hv1 0⟩

/-- What the walk is told of a slice of strings that came in. -/
theorem strs_of {H : Type} {enc : TypeId × Value → H} {W : World} {a : Option Addr} {len cap fuel : Nat} {x : DataW H × List MemPlace}
    (hf : DataW.trod enc Tryd.prog W 0 (fun _ => true) true fuel 22 [.slice a len cap] = some x) :
    ∃ f : Nat → ByteArray, Own W a len f ∧ len ≤ 9223372036854775807 ∧ (∀ i, i < len → (f i).size ≤ 9223372036854775807) ∧ (a = none → len = 0 ∧ cap = 0) := by
  rcases open_strings Tryd.underlying22 Tryd.underlying9 (by kernel_rfl) hf with ⟨hcs, _⟩ | ⟨y, l, c, ss, hcs, _, hl, hm, hz, _, hcell, hwz⟩
  · simp at hcs
    obtain ⟨rfl, rfl, rfl⟩ := hcs
    exact ⟨fun _ => ByteArray.empty, .inl rfl, by omega, fun i hi => by omega, fun _ => ⟨rfl, rfl⟩⟩
  · simp at hcs
    obtain ⟨rfl, rfl, rfl⟩ := hcs
    simp only [if_true] at hz
    unfold maxLen at hm hwz
    refine ⟨fun i => ss.getD i ByteArray.empty, ?_, by omega, fun i hi => ?_, fun e => by cases e⟩
    · by_cases h0 : len = 0
      · exact .inl h0
      · refine .inr ⟨y, rfl, ?_, fun i hi => hcell i (by omega)⟩
        have := cell_lt (hcell 0 (by omega))
        rw [add_block] at this
        exact this
    · have : ss.getD i ByteArray.empty ∈ ss := by
        rw [List.getD_eq_getElem?_getD, List.getElem?_eq_getElem (by omega)]
        exact List.getElem_mem _
      exact hwz _ this

set_option maxRecDepth 100000 in
theorem lifted (os : Os) (started : os.Started) (H : Type) (enc : TypeId × Value → H) :
    ReturnsInHanded {} Tryd.checked os 4 .any (fun w args => (Rows.fnHoldsMatchesCaseTableSpec.pre enc Tryd.prog Tryd.f4 [] false w args ∧ laidMetH Tryd.prog Rows.fnHoldsMatchesCaseTableRow.laid w) ∧ sizedMet enc Tryd.prog Tryd.f4 (OpenSpec.ofChange Rows.fnHoldsMatchesCaseTableSpec) false w args)
      (Rows.fnHoldsMatchesCaseTableSpec.post enc Tryd.prog Tryd.f4 false true false false) := by
  refine returnsInHanded_of_change_and (C := Tryd.checked) (X := fun w _ => laidMetH Tryd.prog Rows.fnHoldsMatchesCaseTableRow.laid w) (fun _ _ _ hh h => h.of_heap hh) own started (by kernel_rfl) Tryd.func4
    (ChangeSpec.witness_shaped (enc := enc) (C := Tryd.checked) (os := os) (X := fun w _ => laidMetH Tryd.prog Rows.fnHoldsMatchesCaseTableRow.laid w) false (World.doorLaid Tryd.prog 62 os) #[.string ByteArray.empty, .int .i64 0, .slice none 0 0, .string ByteArray.empty, .bool false] 8 rfl (World.shaped_of_RefB (by kernel_rfl) (by kernel_rfl)) (by kernel_rfl) (by kernel_rfl) (by kernel_rfl) (door_met os _)) ?_
  intro W base args ds gs before hval0 hW _ _ hL _
  have hval : ∀ (j : Nat) t v, Tryd.f4.params[j]? = some t → args[j]? = some v → Value.okWide Tryd.prog W .any base t v := hval0
  have hW' := hW
  obtain ⟨p, q, hA0, hV, rfl, hfz, hnd⟩ := hW
  have hA : DataW.TrodAll enc Tryd.prog W 0 (fun _ => true) true Tryd.f4.params.toList args.toList ds p := hA0
  rw [Tryd.params4] at hA hval
  obtain ⟨v0, vs0, d0, ds0, p0, q0, hargs, rfl, rfl, h0, r0⟩ := trodAll_cons hA
  obtain ⟨v1, vs1, d1, ds1, p1, q1, rfl, rfl, rfl, h1, r1⟩ := trodAll_cons r0
  obtain ⟨v2, vs2, d2, ds2, p2, q2, rfl, rfl, rfl, h2, r2⟩ := trodAll_cons r1
  obtain ⟨v3, vs3, d3, ds3, p3, q3, rfl, rfl, rfl, h3, r3⟩ := trodAll_cons r2
  obtain ⟨v4, vs4, d4, ds4, p4, q4, rfl, rfl, rfl, h4', r4⟩ := trodAll_cons r3
  obtain ⟨rfl, rfl, rfl⟩ := trodAll_nil r4
  obtain rfl : args = #[v0, v1, v2, v3, v4] := by cases args; simp_all
  obtain ⟨rfl, rfl⟩ := trodVars_none hV
  obtain ⟨key, rfl, rfl, rfl, w0⟩ := open_string Tryd.underlying9 (hval 0 9 v0 rfl rfl) h0
  obtain ⟨op, rfl, rfl, rfl, w1⟩ := open_int Tryd.underlying3 (hval 1 3 v1 rfl rfl) h1
  obtain ⟨a1, len1, cap1, rfl⟩ := okWide_slice Tryd.underlying22 (hval 2 22 v2 rfl rfl)
  have k1 := h2
  have lt1 : ∀ x ∈ p2, x.block < W.heap.size := by obtain ⟨m, hm⟩ := k1; exact DataW.trod_lt m _ _ _ hm
  obtain ⟨f, o1, n1, s1, nil1⟩ : ∃ f : Nat → ByteArray, Own W a1 len1 f ∧ len1 ≤ 9223372036854775807 ∧ (∀ i, i < len1 → (f i).size ≤ 9223372036854775807) ∧ (a1 = none → len1 = 0 ∧ cap1 = 0) := by
    obtain ⟨fuel, hf⟩ := h2
    exact strs_of (by simpa [Value.cells] using hf)
  obtain ⟨value, rfl, rfl, rfl, w2⟩ := open_string Tryd.underlying9 (hval 3 9 v3 rfl rfl) h3
  obtain ⟨ok, rfl, rfl, rfl⟩ := open_bool Tryd.underlying4 (hval 4 4 v4 rfl rfl) h4'
  clear hA0 hval0
  refine (case_any key value op a1 len1 cap1 f ok W (by unfold maxLen at w0; exact w0) (by unfold maxLen at w2; exact w2) n1 o1 s1 nil1 (errs_of hL)).mono fun e W' ⟨he, bel⟩ => ?_
  subst he
  exact ⟨_, rfl, _, _, _, [], _, [], hW', trodAll_mk1 (shut_bool Tryd.underlying4 _), (trodAll_cons_mk (shut_string Tryd.underlying9 w0) (trodAll_cons_mk (shut_int Tryd.underlying3 w1) (trodAll_cons_mk (Below.trod laidOut (by kernel_rfl) (of_decide_eq_true (by kernel_rfl)) k1 bel lt1) (trodAll_cons_mk (shut_string Tryd.underlying9 w2) (trodAll_cons_mk (shut_bool Tryd.underlying4 _) trodAll_mk0))))), rfl, bel.frame _, fun h => by cases h⟩

theorem over : Rows.FnHoldsMatchesCaseTableSaid :=
  OpenClaim.holds_of_wide 4 Tryd.f4 rfl rfl rfl rfl rfl rfl rfl ⟨rfl, rfl, rfl, rfl, rfl⟩ rfl rfl rfl rfl rfl (by kernel_rfl) Tryd.func4 (by kernel_rfl)
    (of_decide_eq_true (by kernel_rfl)) (by unfold Func.isWrapper; first | (rw [if_pos (by decide +kernel)]; kernel_rfl) | (rw [if_neg (by decide +kernel)]; exact ⟨rfl, rfl⟩))
    (fun os started H enc _ => lifted os started H enc)

/-- THE STATEMENT: the tied card. -/
theorem proved : Rows.FnHoldsMatchesCaseTableCardSaid :=
  Claim7.holds_tied_plain_at .later [] [.data, .data, .data, .sentinel, .sentinel] true (true, "756a2ec61bbc5e6939279f098f3ceb17a90c9a0db8e911e718641ba564c7dc7e") true
    over (fun _ h => by cases h) (by kernel_rfl) (fun _ h => by cases h) fnHoldsMatchesCaseTable_row_tie rfl ⟨rfl, rfl⟩ (by kernel_rfl) rfl
    (fun f fn hf hfn => by
      obtain rfl : f = 4 := Option.some.inj ((show Tryd.prog.funcNamed Rows.fnHoldsMatchesCaseTableRow.func = some 4 by kernel_rfl).symm.trans hf) |>.symm
      obtain rfl : fn = Tryd.f4 := (Option.some.inj (Tryd.func4.symm.trans hfn)).symm
      exact ⟨by kernel_rfl, fun j t ht => by
        rw [Tryd.params4] at ht
        have hm : t ∈ [9, 3, 22, 9, 4] := by simpa using Array.mem_of_getElem? ht
        have hall : ([9, 3, 22, 9, 4].all fun u => !Tryd.prog.wantsStandIn u) = true := by kernel_rfl
        exact (show Tryd.prog.wantsStandIn t = false by simpa using List.all_eq_true.1 hall t hm)⟩)
    (by kernel_rfl)
end Go.Proofs.Qxb6602950aDoor.fnHoldsMatchesCaseTable
