/-
  THE SHELL OF A PROOF OF 'Rows.FnHashStateSeparatesOneWordChangesSaid' ('example.com/fairway/fairway/zzlaws_sched_b1.FnHashStateSeparatesOneWordChanges'), WRITTEN BY PROGRAM (proof-skeleton.mjs, third state) off the guide's own print for that function. Not trusted: Lean checks it.
  The hole is filled. ALL ELSE IS THE GUIDE's OWN WAY (howto/template/XProofs.lean; Derived/Test/ChunkProofs.lean for 'Below') at this function's number and types: leave it.
-/
import Derived.Test.Qxb6602950aRows
import Derived.WalkKit
import Derived.ProofKit
import Derived.OpenShut
import Derived.ShutString
import Derived.ChangeOld
import Derived.Below
import Derived.Test.Qxb6602950aHashMain2
namespace Go.Proofs.Qxb6602950a.fnHashStateSeparatesOneWordChanges
open Go.ChangeShapes Go.WideShapes Go.ChangeAt Go.RowKit
open Go.ChangeMaps (open_string shut_string)
set_option linter.unusedVariables false

theorem own : ownKnob Try.prog.godebug = none := by kernel_rfl
theorem laidOut : laidOutB Try.prog = true := by kernel_rfl

/-- WHAT THE WALK IS TOLD OF A SLICE OF INTEGERS THAT CAME IN: it is nil; or it leads to a row of 'cap' cells, the numbers 'zs' (the first 'len' are its elements, the rest its spare room), each fitting its kind. -/
def IsRow (k : IntKind) (w : World) (a : Option Addr) (len cap : Nat) (zs : List Int) : Prop :=
  (a = none ∧ len = 0 ∧ cap = 0 ∧ zs = []) ∨
  ∃ x, a = some x ∧ len ≤ cap ∧ cap ≤ maxLen ∧ zs.length = cap ∧ (∀ i, i < zs.length → w.cell? (x.add i) = some (.int k (zs.getD i 0))) ∧ ∀ n ∈ zs, (Lit.int k n).wf = true

theorem u64_of {a : Int} (h : (Lit.int .u64 a).wf = true) : ∃ u : UInt64, a = (u.toNat : Int) := by
  have hb := bounds_u64 h
  refine ⟨UInt64.ofNat a.toNat, ?_⟩
  rw [UInt64.toNat_ofNat']
  omega
theorem own_of {w : World} {a : Option Addr} {len cap : Nat} {zs : List Int} (h : IsRow .i64 w a len cap zs) : Own w a len (fun i => zs.getD i 0) := by
  rcases h with ⟨_, h, _, _⟩ | ⟨x, rfl, hl, hm, hz, hc, _⟩
  · exact .inl h
  · by_cases h0 : len = 0
    · exact .inl h0
    · refine .inr ⟨x, rfl, ?_, fun i hi => hc i (by omega)⟩
      have := cell_lt (hc 0 (by omega))
      rw [add_block] at this
      exact this
theorem len_of {w : World} {a : Option Addr} {len cap : Nat} {zs : List Int} (h : IsRow .i64 w a len cap zs) : len ≤ 9223372036854775807 ∧ (a = none → len = 0 ∧ cap = 0) := by
  rcases h with ⟨_, h1, h2, _⟩ | ⟨x, rfl, hl, hm, hz, hc, _⟩
  · exact ⟨by omega, fun _ => ⟨h1, h2⟩⟩
  · unfold maxLen at hm
    exact ⟨by omega, fun e => by cases e⟩

/-! ### STEP 1: THE WALK: the Go text returns true, AND WRITES NOTHING THAT WAS THERE: 'Below w.heap.size w w'' (Derived/Below.lean: '.refl', '.alloc', '.drew', '.setCell' at a new block, '.trans'). Open each 'IsRow' by 'rcases' AHEAD of 'go_enter'; part every test ahead of the walk. -/
theorem walk (a0 : Int) (a1 : Int) (a2 : Int) (a3 : Int) (a4 : Option Addr) (len4 cap4 : Nat) (z4 : List Int) (a5 : Option Addr) (len5 cap5 : Nat) (z5 : List Int) (a6 : Int) (a7 : Int) (a8 : Int) (a9 : Int) (w : World) (w0 : (Lit.int .i64 a0).wf = true) (w1 : (Lit.int .i64 a1).wf = true) (w2 : (Lit.int .i64 a2).wf = true) (w3 : (Lit.int .i64 a3).wf = true) (w4 : IsRow .i64 w a4 len4 cap4 z4) (w5 : IsRow .i64 w a5 len5 cap5 z5) (w6 : (Lit.int .u64 a6).wf = true) (w7 : (Lit.int .u64 a7).wf = true) (w8 : (Lit.int .i64 a8).wf = true) (w9 : (Lit.int .u64 a9).wf = true) :
    Calls Try.prog 5 #[.int .i64 a0, .int .i64 a1, .int .i64 a2, .int .i64 a3, .slice a4 len4 cap4, .slice a5 len5 cap5, .int .u64 a6, .int .u64 a7, .int .i64 a8, .int .u64 a9] w fun e w' => e = .returned (.bool true) ∧ Below w.heap.size w w' := by
  obtain ⟨u, rfl⟩ := u64_of w6
  obtain ⟨v, rfl⟩ := u64_of w7
  obtain ⟨W, rfl⟩ := u64_of w9
  have o4 := own_of w4
  have o5 := own_of w5
  obtain ⟨l4, g4⟩ := len_of w4
  obtain ⟨l5, g5⟩ := len_of w5
  by_cases hA : len4 + len5 ≤ 1048576
  · by_cases hB : len4 + len5 ≤ 131072
    · by_cases hC : len4 = len5
      · subst hC
        by_cases hD : a8 < 0 ∨ 6 + 2 * (len4 : Int) ≤ a8
        · exact (lawD a0 a1 a2 a3 a4 a5 len4 cap4 cap5 _ _ a8 _ w (by omega) hD).mono (fun e w' h => ⟨h.1, h.2 ▸ Below.refl _ _⟩)
        · obtain ⟨p, rfl⟩ := Int.eq_ofNat_of_zero_le (show 0 ≤ a8 by omega)
          have hp : p < 6 + 2 * len4 := by omega
          by_cases hE : (((wordAt a0 a1 a2 a3 (fun i => z4.getD i 0) (fun i => z5.getD i 0) len4 u v p).toNat : Int) == (W.toNat : Int)) = true
          · exact (lawE a0 a1 a2 a3 a4 a5 len4 cap4 cap5 _ _ u v W p w (by omega) hp o4 o5 hE).mono (fun e w' h => ⟨h.1, h.2 ▸ Below.refl _ _⟩)
          · exact lawF a0 a1 a2 a3 a4 a5 len4 cap4 cap5 _ _ u v W p w (by omega) hp o4 o5 g4 g5 (by simpa using hE)
      · exact (lawC a0 a1 a2 a3 a4 a5 len4 len5 cap4 cap5 _ _ a8 _ w hB (by rw [bne_iff_ne]; omega)).mono (fun e w' h => ⟨h.1, h.2 ▸ Below.refl _ _⟩)
    · exact (lawB a0 a1 a2 a3 a4 a5 len4 len5 cap4 cap5 _ _ a8 _ w hA hB).mono (fun e w' h => ⟨h.1, h.2 ▸ Below.refl _ _⟩)
  · exact (lawA a0 a1 a2 a3 a4 a5 len4 len5 cap4 cap5 _ _ a8 _ w l4 l5 hA).mono (fun e w' h => ⟨h.1, h.2 ▸ Below.refl _ _⟩)

/-! ### THE ROW's STEP: WRITTEN OUT: LEAVE IT -/
set_option maxRecDepth 100000 in
theorem lifted (os : Os) (started : os.Started) (H : Type) (enc : TypeId × Value → H) :
    ReturnsInHanded {} Try.checked os 5 .any (Rows.fnHashStateSeparatesOneWordChangesSpec.pre6 enc Try.prog Try.f5 Rows.fnHashStateSeparatesOneWordChangesRow.domain false) (Rows.fnHashStateSeparatesOneWordChangesSpec.post enc Try.prog Try.f5 false true false false) := by
  refine returnsInHanded_of_change (C := Try.checked) own started (by kernel_rfl) Try.func5
    (ChangeSpec.witness6 (enc := enc) (C := Try.checked) false ⟨#[], #[.int .i64 0, .int .i64 0, .int .i64 0, .int .i64 0, .slice none 0 0, .slice none 0 0, .int .u64 0, .int .u64 0, .int .i64 0, .int .u64 0], []⟩ 8 (by kernel_rfl) (by kernel_rfl) (by kernel_rfl) (by kernel_rfl)) ?_
  intro W base args ds gs before hval0 hW hcnd _
  have hval : ∀ (j : Nat) t v, Try.f5.params[j]? = some t → args[j]? = some v → Value.okWide Try.prog W .any base t v := hval0
  have hW' := hW
  obtain ⟨p, q, hA0, hV, rfl, hfz, hnd⟩ := hW
  have hA : DataW.TrodAll enc Try.prog W 0 (fun _ => true) true Try.f5.params.toList args.toList ds p := hA0
  rw [Try.params5] at hA hval
  obtain ⟨v0, vs0, d0, ds0, p0, q0, hargs, rfl, rfl, h0, r0⟩ := trodAll_cons hA
  obtain ⟨v1, vs1, d1, ds1, p1, q1, rfl, rfl, rfl, h1, r1⟩ := trodAll_cons r0
  obtain ⟨v2, vs2, d2, ds2, p2, q2, rfl, rfl, rfl, h2, r2⟩ := trodAll_cons r1
  obtain ⟨v3, vs3, d3, ds3, p3, q3, rfl, rfl, rfl, h3, r3⟩ := trodAll_cons r2
  obtain ⟨v4, vs4, d4, ds4, p4, q4, rfl, rfl, rfl, h4, r4⟩ := trodAll_cons r3
  obtain ⟨v5, vs5, d5, ds5, p5, q5, rfl, rfl, rfl, h5, r5⟩ := trodAll_cons r4
  obtain ⟨v6, vs6, d6, ds6, p6, q6, rfl, rfl, rfl, h6, r6⟩ := trodAll_cons r5
  obtain ⟨v7, vs7, d7, ds7, p7, q7, rfl, rfl, rfl, h7, r7⟩ := trodAll_cons r6
  obtain ⟨v8, vs8, d8, ds8, p8, q8, rfl, rfl, rfl, h8, r8⟩ := trodAll_cons r7
  obtain ⟨v9, vs9, d9, ds9, p9, q9, rfl, rfl, rfl, h9, r9⟩ := trodAll_cons r8
  obtain ⟨rfl, rfl, rfl⟩ := trodAll_nil r9
  obtain rfl : args = #[v0, v1, v2, v3, v4, v5, v6, v7, v8, v9] := by cases args; simp_all
  obtain ⟨rfl, rfl⟩ := trodVars_none hV
  obtain ⟨a0, rfl, rfl, rfl, w0⟩ := open_int Try.underlying2 (hval 0 2 v0 rfl rfl) h0
  obtain ⟨a1, rfl, rfl, rfl, w1⟩ := open_int Try.underlying2 (hval 1 2 v1 rfl rfl) h1
  obtain ⟨a2, rfl, rfl, rfl, w2⟩ := open_int Try.underlying2 (hval 2 2 v2 rfl rfl) h2
  obtain ⟨a3, rfl, rfl, rfl, w3⟩ := open_int Try.underlying2 (hval 3 2 v3 rfl rfl) h3
  obtain ⟨a4, len4, cap4, rfl⟩ := okWide_slice Try.underlying22 (hval 4 22 v4 rfl rfl)
  have k4 := h4
  have lt4 : ∀ x ∈ p4, x.block < W.heap.size := by obtain ⟨m, hm⟩ := k4; exact DataW.trod_lt m _ _ _ hm
  obtain ⟨z4, w4⟩ : ∃ zs, IsRow .i64 W a4 len4 cap4 zs := by
    obtain ⟨fuel, hf⟩ := h4
    rcases open_ints Try.underlying22 Try.underlying2 (by kernel_rfl) hf with ⟨hcs, _⟩ | ⟨x, l, c, zs, hcs, _, hl, hm, hz, _, hcell, hwz⟩
    · simp [Value.cells] at hcs
      obtain ⟨rfl, rfl, rfl⟩ := hcs
      exact ⟨[], .inl ⟨rfl, rfl, rfl, rfl⟩⟩
    · simp [Value.cells] at hcs
      obtain ⟨rfl, rfl, rfl⟩ := hcs
      exact ⟨zs, .inr ⟨_, rfl, hl, hm, by simpa using hz, hcell, hwz⟩⟩
  obtain ⟨a5, len5, cap5, rfl⟩ := okWide_slice Try.underlying22 (hval 5 22 v5 rfl rfl)
  have k5 := h5
  have lt5 : ∀ x ∈ p5, x.block < W.heap.size := by obtain ⟨m, hm⟩ := k5; exact DataW.trod_lt m _ _ _ hm
  obtain ⟨z5, w5⟩ : ∃ zs, IsRow .i64 W a5 len5 cap5 zs := by
    obtain ⟨fuel, hf⟩ := h5
    rcases open_ints Try.underlying22 Try.underlying2 (by kernel_rfl) hf with ⟨hcs, _⟩ | ⟨x, l, c, zs, hcs, _, hl, hm, hz, _, hcell, hwz⟩
    · simp [Value.cells] at hcs
      obtain ⟨rfl, rfl, rfl⟩ := hcs
      exact ⟨[], .inl ⟨rfl, rfl, rfl, rfl⟩⟩
    · simp [Value.cells] at hcs
      obtain ⟨rfl, rfl, rfl⟩ := hcs
      exact ⟨zs, .inr ⟨_, rfl, hl, hm, by simpa using hz, hcell, hwz⟩⟩
  obtain ⟨a6, rfl, rfl, rfl, w6⟩ := open_int Try.underlying30 (hval 6 30 v6 rfl rfl) h6
  obtain ⟨a7, rfl, rfl, rfl, w7⟩ := open_int Try.underlying30 (hval 7 30 v7 rfl rfl) h7
  obtain ⟨a8, rfl, rfl, rfl, w8⟩ := open_int Try.underlying3 (hval 8 3 v8 rfl rfl) h8
  obtain ⟨a9, rfl, rfl, rfl, w9⟩ := open_int Try.underlying30 (hval 9 30 v9 rfl rfl) h9
  clear hA0 hval0
  refine (walk a0 a1 a2 a3 a4 len4 cap4 z4 a5 len5 cap5 z5 a6 a7 a8 a9 W w0 w1 w2 w3 w4 w5 w6 w7 w8 w9).mono fun e W' ⟨he, bel⟩ => ?_
  subst he
  exact ⟨_, rfl, _, _, _, [], _, [], hW', trodAll_mk1 (shut_bool Try.underlying4 _), (trodAll_cons_mk (shut_int Try.underlying2 w0) (trodAll_cons_mk (shut_int Try.underlying2 w1) (trodAll_cons_mk (shut_int Try.underlying2 w2) (trodAll_cons_mk (shut_int Try.underlying2 w3) (trodAll_cons_mk (Below.trod laidOut (by kernel_rfl) (of_decide_eq_true (by kernel_rfl)) k4 bel lt4) (trodAll_cons_mk (Below.trod laidOut (by kernel_rfl) (of_decide_eq_true (by kernel_rfl)) k5 bel lt5) (trodAll_cons_mk (shut_int Try.underlying30 w6) (trodAll_cons_mk (shut_int Try.underlying30 w7) (trodAll_cons_mk (shut_int Try.underlying3 w8) (trodAll_cons_mk (shut_int Try.underlying30 w9) trodAll_mk0)))))))))), rfl, bel.frame _, fun h => by cases h⟩

theorem over : Rows.fnHashStateSeparatesOneWordChangesRow.holds Try.pinned (OpenSpec.ofChange Rows.fnHashStateSeparatesOneWordChangesSpec) :=
  OpenClaim.holds_of_wide 5 Try.f5 rfl rfl rfl rfl rfl rfl rfl ⟨rfl, rfl, rfl, rfl, rfl⟩ rfl rfl rfl rfl rfl (by kernel_rfl) Try.func5 (by kernel_rfl)
    (of_decide_eq_true (by kernel_rfl)) (by unfold Func.isWrapper; first | (rw [if_pos (by decide +kernel)]; kernel_rfl) | (rw [if_neg (by decide +kernel)]; exact ⟨rfl, rfl⟩))
    (fun os started H enc _ => lifted os started H enc)

/-- ████ THE STATEMENT ████ -/
theorem proved : Rows.FnHashStateSeparatesOneWordChangesSaid := over
end Go.Proofs.Qxb6602950a.fnHashStateSeparatesOneWordChanges
