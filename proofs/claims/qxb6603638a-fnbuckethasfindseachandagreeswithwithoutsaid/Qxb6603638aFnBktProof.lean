/- THE ROW OF FnBucketHasFindsEachAndAgreesWithWithout (after the guide's own way with 'Below'). -/
import Derived.Test.Qxb6603638aRows
import Derived.WalkKit
import Derived.ProofKit
import Derived.OpenShut
import Derived.ChangeOld
import Derived.Below
import Derived.Deep.Slices
import Derived.Test.Qxb6603638aMain
namespace Go.Proofs.Qxb6603638a.fnBucketHasFindsEachAndAgreesWithWithout
open Go.ChangeShapes Go.WideShapes Go.ChangeAt Go.RowKit
set_option linter.unusedVariables false

theorem own : ownKnob Try.prog.godebug = none := by kernel_rfl
theorem laidOut : laidOutB Try.prog = true := by kernel_rfl
theorem cells5 : Try.prog.cellsOf 5 = 1 := by kernel_rfl
theorem cells23 : Try.prog.cellsOf 23 = 20 := by kernel_rfl

/-- A byte's cell, read back. -/
def byteOf : Value → UInt8
  | .int _ n => UInt8.ofNat n.toNat
  | _ => 0
theorem byteOf_cell {n : Int} (h : (Lit.int .u8 n).wf = true) : Value.int .u8 n = Extern.Stop.cell (byteOf (.int .u8 n)) := by
  have hb : 0 ≤ n ∧ n ≤ 255 := by
    simp [Lit.wf, IntKind.min, IntKind.max, IntKind.signed, IntKind.bits] at h
    omega
  simp only [Extern.Stop.cell, byteOf]
  congr 1
  rw [UInt8.toNat_ofNat']
  simp only [Int.ofNat_eq_natCast]
  omega

/-- What the walk is told of an array of 20 bytes. -/
theorem id_of {H : Type} {enc : TypeId × Value → H} {W : World} {fuel : Nat} {cs : List Value} {x : DataW H × List MemPlace}
    (hf : DataW.trod enc Try.prog W 0 (fun _ => true) true fuel 23 cs = some x) : ∃ l : List UInt8, l.length = 20 ∧ cs = idl l := by
  obtain ⟨xs, m, _, _, hlen, hxl, hget⟩ := DataW.trod_array Try.underlying23 hf
  rw [cells23] at hlen
  refine ⟨cs.map byteOf, by simpa using hlen, ?_⟩
  refine List.ext_getElem (by simp [idl]) (fun i h1 h2 => ?_)
  have hi : i < 20 := by omega
  have hg := hget i hi
  rw [cells5, Nat.mul_one, List.getElem?_eq_getElem (by omega)] at hg
  obtain ⟨n, hc, _, hw⟩ := DataW.trod_int Try.underlying5 hg
  have hci : cs[i] = .int .u8 n := by
    have : ((cs.drop i).take 1)[0]? = some (.int .u8 n) := by rw [hc]; rfl
    simpa [List.getElem?_take, List.getElem?_drop, List.getElem?_eq_getElem h1] using this
  simp only [idl, List.getElem_map]
  rw [hci]
  exact byteOf_cell hw

/-- .. of a slice of such. -/
theorem ids_of {H : Type} {enc : TypeId × Value → H} {W : World} {a : Option Addr} {len cap fuel : Nat} {x : DataW H × List MemPlace}
    (hf : DataW.trod enc Try.prog W 0 (fun _ => true) true fuel 22 [.slice a len cap] = some x) :
    ∃ f : Nat → List UInt8, Own W a len f ∧ len ≤ 9223372036854775807 ∧ (a = none → len = 0 ∧ cap = 0) := by
  rcases Go.Deep.open_slice Try.underlying22 hf with ⟨hcs, _⟩ | ⟨y, l, c, m, n, D, Pl, hcs, _, hl, hm, hmm, _, hx⟩
  · simp at hcs
    obtain ⟨rfl, rfl, rfl⟩ := hcs
    exact ⟨fun _ => [], .inl rfl, by omega, fun _ => ⟨rfl, rfl⟩⟩
  · simp at hcs
    obtain ⟨rfl, rfl, rfl⟩ := hcs
    simp only [if_true] at hmm
    subst hmm
    unfold maxLen at hm
    obtain ⟨f, hF⟩ := Go.Deep.choose_lt (α := List UInt8) (n := m) (p := fun i l => l.length = 20 ∧ At W (y.add (i * 20)) (idl l) ∧ y.block < W.heap.size) (fun i hi => by
      obtain ⟨cs', h1, h2⟩ := hx i hi
      rw [cells23] at h1
      obtain ⟨l, hl', rfl⟩ := id_of h2
      obtain ⟨_, h4, h5⟩ := World.cells?_some h1
      refine ⟨l, hl', fun j v hv => ?_, ?_⟩
      · have hj : j < 20 := by have := (List.getElem?_eq_some_iff.1 hv).1; rw [h4] at this; exact this
        rw [h5 j hj]
        exact hv
      · have := World.cells?_block h1 (by omega)
        rw [add_block] at this
        exact this)
    refine ⟨f, ?_, by omega, fun e => by cases e⟩
    by_cases h0 : len = 0
    · exact .inl h0
    · exact .inr ⟨y, rfl, (hF 0 (by omega)).2.2, fun i hi => ⟨(hF i (by omega)).1, (hF i (by omega)).2.1⟩⟩

set_option maxRecDepth 100000 in
theorem lifted (os : Os) (started : os.Started) (H : Type) (enc : TypeId × Value → H) :
    ReturnsInHanded {} Try.checked os 3 .any (Rows.fnBucketHasFindsEachAndAgreesWithWithoutSpec.pre6 enc Try.prog Try.f3 Rows.fnBucketHasFindsEachAndAgreesWithWithoutRow.domain false) (Rows.fnBucketHasFindsEachAndAgreesWithWithoutSpec.post enc Try.prog Try.f3 false true false false) := by
  refine returnsInHanded_of_change (C := Try.checked) own started (by kernel_rfl) Try.func3
    (ChangeSpec.witness6 (enc := enc) (C := Try.checked) false ⟨#[], #[.slice none 0 0, .agg #[.int .u8 0, .int .u8 0, .int .u8 0, .int .u8 0, .int .u8 0, .int .u8 0, .int .u8 0, .int .u8 0, .int .u8 0, .int .u8 0, .int .u8 0, .int .u8 0, .int .u8 0, .int .u8 0, .int .u8 0, .int .u8 0, .int .u8 0, .int .u8 0, .int .u8 0, .int .u8 0]], []⟩ 8 (by kernel_rfl) (by kernel_rfl) (by kernel_rfl) (by kernel_rfl)) ?_
  intro W base args ds gs before hval0 hW hcnd _
  have hval : ∀ (j : Nat) t v, Try.f3.params[j]? = some t → args[j]? = some v → Value.okWide Try.prog W .any base t v := hval0
  have hW' := hW
  obtain ⟨p, q, hA0, hV, rfl, hfz, hnd⟩ := hW
  have hA : DataW.TrodAll enc Try.prog W 0 (fun _ => true) true Try.f3.params.toList args.toList ds p := hA0
  rw [Try.params3] at hA hval
  obtain ⟨v0, vs0, d0, ds0, p0, q0, hargs, rfl, rfl, h0, r0⟩ := trodAll_cons hA
  obtain ⟨v1, vs1, d1, ds1, p1, q1, rfl, rfl, rfl, h1, r1⟩ := trodAll_cons r0
  obtain ⟨rfl, rfl, rfl⟩ := trodAll_nil r1
  obtain rfl : args = #[v0, v1] := by cases args; simp_all
  obtain ⟨rfl, rfl⟩ := trodVars_none hV
  obtain ⟨a0, len0, cap0, rfl⟩ := okWide_slice Try.underlying22 (hval 0 22 v0 rfl rfl)
  have k0 := h0
  have lt0 : ∀ x ∈ p0, x.block < W.heap.size := by obtain ⟨m, hm⟩ := k0; exact DataW.trod_lt m _ _ _ hm
  obtain ⟨f, o0, n0, nil0⟩ : ∃ f : Nat → List UInt8, Own W a0 len0 f ∧ len0 ≤ 9223372036854775807 ∧ (a0 = none → len0 = 0 ∧ cap0 = 0) := by
    obtain ⟨fuel, hf⟩ := h0
    exact ids_of (by simpa [Value.cells] using hf)
  have hv1 := hval 1 23 v1 rfl rfl
  unfold Value.okWide at hv1
  rw [Try.underlying23] at hv1
  obtain ⟨cs1, rfl, _, _⟩ := hv1
  have k1 := h1
  have lt1 : ∀ x ∈ p1, x.block < W.heap.size := by obtain ⟨m, hm⟩ := k1; exact DataW.trod_lt m _ _ _ hm
  obtain ⟨l1, hl1, rfl⟩ : ∃ l : List UInt8, l.length = 20 ∧ cs1 = idc l := by
    obtain ⟨fuel, hf⟩ := h1
    obtain ⟨l, hl, he⟩ := id_of (cs := cs1.toList) (by simpa [Value.cells] using hf)
    exact ⟨l, hl, by unfold idc; rw [← he]⟩
  clear hA0 hval0
  refine (bucket_any a0 len0 cap0 f l1 W n0 hl1 o0 nil0).mono fun e W' ⟨he, bel⟩ => ?_
  subst he
  exact ⟨_, rfl, _, _, _, [], _, [], hW', trodAll_mk1 (shut_bool Try.underlying4 _), (trodAll_cons_mk (Below.trod laidOut (by kernel_rfl) (of_decide_eq_true (by kernel_rfl)) k0 bel lt0) (trodAll_cons_mk (Below.trod laidOut (by kernel_rfl) (of_decide_eq_true (by kernel_rfl)) k1 bel lt1) trodAll_mk0)), rfl, bel.frame _, fun h => by cases h⟩

theorem over : Rows.fnBucketHasFindsEachAndAgreesWithWithoutRow.holds Try.pinned (OpenSpec.ofChange Rows.fnBucketHasFindsEachAndAgreesWithWithoutSpec) :=
  OpenClaim.holds_of_wide 3 Try.f3 rfl rfl rfl rfl rfl rfl rfl ⟨rfl, rfl, rfl, rfl, rfl⟩ rfl rfl rfl rfl rfl (by kernel_rfl) Try.func3 (by kernel_rfl)
    (of_decide_eq_true (by kernel_rfl)) (by unfold Func.isWrapper; first | (rw [if_pos (by decide +kernel)]; kernel_rfl) | (rw [if_neg (by decide +kernel)]; exact ⟨rfl, rfl⟩))
    (fun os started H enc _ => lifted os started H enc)

/-- THE STATEMENT. -/
theorem proved : Rows.FnBucketHasFindsEachAndAgreesWithWithoutSaid := over
end Go.Proofs.Qxb6603638a.fnBucketHasFindsEachAndAgreesWithWithout
