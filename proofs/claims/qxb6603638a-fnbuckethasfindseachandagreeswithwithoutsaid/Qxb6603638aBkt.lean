/- WORK: ZZnewBucket; (*bucket).has; ZZhas. -/
import Derived.Test.Qxb6603638aHas
set_option linter.unusedVariables false
namespace Go.Proofs.Qxb6603638a
open Go.RowKit

set_option maxHeartbeats 400000 in
theorem new8 (a : Option Addr) (n c : Nat) (w : World) : Calls Try.prog 8 #[.slice a n c] w fun e w' => e = .returned (.pointer (some ⟨w.heap.size, 0, none⟩)) ∧ Below w.heap.size w w' ∧ w'.cell? ⟨w.heap.size, 0, none⟩ = some (.slice a n c) ∧ w.heap.size < w'.heap.size := by
  have HB : Hid (Below w.heap.size w (w.alloc (.cells #[.slice a n c, .slice none 0 0, .int .u64 0, .int .i64 0, .pointer none, .int .u64 0, .int .i64 0, .pointer none] 64))) := (Below.refl _ w).alloc (Nat.le_refl _) _
  have HX : Hid (Bx (w.alloc (.cells #[.slice a n c, .slice none 0 0, .int .u64 0, .int .i64 0, .pointer none, .int .u64 0, .int .i64 0, .pointer none] 64)) w.heap.size _ 64) := Bx.new w _ 64
  go_enter Try.func8, Try.ntmps8
  go_wp2
  go_ret
  exact ⟨rfl, HB.out, Bx.range HX.out 0 _ rfl, Bx.lt HX.out⟩

open Classical in
noncomputable def memF (f : Nat → List UInt8) (n : Nat) (p : List UInt8) : Bool := decide (∃ i, i < n ∧ f i = p)
theorem memF_yes {f : Nat → List UInt8} {n i : Nat} {p : List UInt8} (hi : i < n) (h : f i = p) : memF f n p = true := decide_eq_true ⟨i, hi, h⟩
theorem memF_no {f : Nat → List UInt8} {n : Nat} {p : List UInt8} (h : ∀ i, i < n → f i ≠ p) : memF f n p = false := decide_eq_false (fun ⟨i, hi, e⟩ => h i hi e)
abbrev zc : Array Value := #[.int .u8 0, .int .u8 0, .int .u8 0, .int .u8 0, .int .u8 0, .int .u8 0, .int .u8 0, .int .u8 0, .int .u8 0, .int .u8 0, .int .u8 0, .int .u8 0, .int .u8 0, .int .u8 0, .int .u8 0, .int .u8 0, .int .u8 0, .int .u8 0, .int .u8 0, .int .u8 0, .int .u64 0, .int .u64 0, .pointer none, .int .u16 0]

/-- One round's variable: made, filled, read. -/
theorem round_var {w1 wr : World} {g : Nat} {l p : List UInt8} (hl : l.length = 20) (hp : p.length = 20) (hg : Bx wr g (idc p) 27) (B : Nat) (hB : B ≤ wr.heap.size) :
    ∃ w3, (Instr.storeAt 40 (.pointer (some ⟨wr.heap.size, 0, none⟩)) (ctv l)).run Try.prog (wr.alloc (.cells zc 40)) = .ok () w3 ∧
      (Instr.loadAt 27 (.pointer (some ⟨wr.heap.size, 0, none⟩))).run Try.prog w3 = .ok (idv l) w3 ∧ (Instr.loadAt 27 (.pointer (some ⟨g, 0, none⟩))).run Try.prog w3 = .ok (idv p) w3 ∧
      (binOp .eql 27 (idv l) (idv p)).run Try.prog w3 = .ok (.bool (l == p)) w3 ∧ Below B wr w3 := by
  have hn := Bx.new wr zc 40
  have hs : Bx ((wr.alloc (.cells zc 40)).setRow wr.heap.size (ctc l)) wr.heap.size (ctc l) 40 := hn.set
  have hg' : Bx ((wr.alloc (.cells zc 40)).setRow wr.heap.size (ctc l)) g (idc p) 27 := by
    show (World.setRow _ _ _).heap[g]? = _
    rw [setRow_other _ _ _ _ (Nat.ne_of_lt hg.lt)]
    exact (Below.heap_alloc _ _ _ hg.lt).trans hg
  exact ⟨_, hn.store rfl l hl, hs.cid hl, hg'.id hp 27 Try.underlying27 size27, eq_id 27 Try.underlying27 l p hl hp _, below_row ((Below.refl B wr).alloc hB _) hB _⟩

set_option maxHeartbeats 800000 in
theorem has17 (bb b n m cap : Nat) (f : Nat → List UInt8) (p : List UInt8) (w : World) (hn : n ≤ 4096) (hp : p.length = 20) (hl : ∀ i, i < n → (f i).length = 20) (hc : w.cell? ⟨bb, 0, none⟩ = some (.slice (some ⟨b, 0, none⟩) n cap)) (hr : Row w b 24 m n (fun i => ctl (f i))) (hb : b < w.heap.size) :
    Calls Try.prog 17 #[.pointer (some ⟨bb, 0, none⟩), idv p] w fun e w' => e = .returned (.bool (memF f n p)) ∧ Below w.heap.size w w' := by
  have hbb : bb < w.heap.size := World.block_lt_of_cell? w _ hc
  have hB1 : Below w.heap.size w (w.alloc (.cells (idc p) 27)) := (Below.refl _ w).alloc (Nat.le_refl _) _
  have hc1 : (w.alloc (.cells (idc p) 27)).cell? ⟨bb, 0, none⟩ = some (.slice (some ⟨b, 0, none⟩) n cap) := (hB1.cell hbb).trans hc
  have hr1 := hr.below hB1 hb
  have hx1 := Bx.new w (idc p) 27
  clear hc hr
  go_enter Try.func17, Try.ntmps17
  go_wp2_with fail
  generalize hw1 : w.alloc _ = w1 at hB1 hc1 hr1 hx1 ⊢
  clear hw1
  have HX : Hid (Bx w1 w.heap.size (idc p) 27) := hx1
  have HR : Hid (Row w1 b 24 m n (fun i => ctl (f i))) := hr1
  have HL : Hid (∀ i, i < n → (f i).length = 20) := hl
  have HB : Hid _ := hB1
  clear hx1 hr1 hl hB1
  go_wp2_with fail
  go_loopw [12] (fun i wr => ∃ k : Nat, k ≤ n ∧ i = .int .i64 k ∧ Below w1.heap.size w1 wr ∧ Hid (∀ j, j < k → f j ≠ p)) (fun i _ => n - (intOf i).toNat)
  case atStart => exact ⟨0, Nat.zero_le _, rfl, Below.refl _ _, fun j hj => by omega⟩
  case round =>
    obtain ⟨k, hk, rfl, hb2, HN⟩ := hrel
    by_cases hlt : k < n
    · have hlk := HL.out k hlt
      have hs1 := Bx.lt HX.out
      have hld := (Row.below HR.out hb2 (Nat.lt_of_lt_of_le hb HB.out.size)).ldC hlt hlk
      obtain ⟨w3, hst, hl1, hl2, heq, hb3⟩ := round_var (w1 := w1) hlk hp (Bx.below HX.out hb2 hs1) w1.heap.size hb2.size
      have HLD : Hid _ := hld
      have HST : Hid _ := hst
      have HL1 : Hid _ := hl1
      have HL2 : Hid _ := hl2
      have HEQ : Hid _ := heq
      have HB3 : Hid _ := hb2.trans hb3
      clear hld hst hl1 hl2 heq hb3 hs1
      have HK : Hid ((f k == p) = false → ∀ j, j < k + 1 → f j ≠ p) := by
        intro hne j hj
        by_cases e : j = k
        · rw [e]; exact fun e' => by rw [e'] at hne; simp at hne
        · exact HN.out j (by omega)
      have HY : Hid ((f k == p) = true → memF f n p = true) := fun he => memF_yes hlt (by simpa using he)
      generalize (f k == p) = bq at *
      cases bq
      · have HK2 : Hid (∀ j, j < k + 1 → f j ≠ p) := HK.out rfl
        clear HK HY
        go_wp2_with (first
          | (refine wpList_ld (by rfl) _ 40 (by rfl) _ _ (by rfl) HLD.out ?_)
          | (refine wpList_st (by rfl) _ _ 40 (by rfl) _ _ (by rfl) (by rfl) HST.out ?_)
          | (refine wpList_ld (by rfl) _ 27 (by rfl) _ _ (by rfl) HL1.out ?_)
          | (refine wpList_ld (by rfl) _ 27 (by rfl) _ _ (by rfl) HL2.out ?_)
          | (refine wpList_eq (by rfl) _ _ 27 27 (by rfl) _ _ _ (by rfl) (by rfl) guard27 HEQ.out ?_))
        go_roundw
        case rel => exact ⟨k + 1, by omega, by go_num, HB3.out, HK2⟩
        case measure => simp [intOf]; omega
      · have HY2 : Hid (memF f n p = true) := HY.out rfl
        clear HK HY
        go_wp2_with (first
          | (refine wpList_ld (by rfl) _ 40 (by rfl) _ _ (by rfl) HLD.out ?_)
          | (refine wpList_st (by rfl) _ _ 40 (by rfl) _ _ (by rfl) (by rfl) HST.out ?_)
          | (refine wpList_ld (by rfl) _ 27 (by rfl) _ _ (by rfl) HL1.out ?_)
          | (refine wpList_ld (by rfl) _ 27 (by rfl) _ _ (by rfl) HL2.out ?_)
          | (refine wpList_eq (by rfl) _ _ 27 27 (by rfl) _ _ _ (by rfl) (by rfl) guard27 HEQ.out ?_))
        go_ret
        exact ⟨by rw [HY2.out]; rfl, HB.out.trans (HB3.out.mono HB.out.size)⟩
    · have hno : memF f n p = false := memF_no (fun i hi => HN.out i (by omega))
      have HNO : Hid _ := hno
      clear hno
      go_wp2
      go_ret
      exact ⟨by rw [HNO.out]; rfl, HB.out.trans (hb2.mono HB.out.size)⟩

set_option maxHeartbeats 400000 in
theorem zzhas (bb b n m cap : Nat) (f : Nat → List UInt8) (p : List UInt8) (w : World) (hn : n ≤ 4096) (hp : p.length = 20) (hl : ∀ i, i < n → (f i).length = 20) (hc : w.cell? ⟨bb, 0, none⟩ = some (.slice (some ⟨b, 0, none⟩) n cap)) (hr : Row w b 24 m n (fun i => ctl (f i))) (hb : b < w.heap.size) :
    Calls Try.prog 9 #[.pointer (some ⟨bb, 0, none⟩), idv p] w fun e w' => e = .returned (.bool (memF f n p)) ∧ Below w.heap.size w w' := by
  have hbb : bb < w.heap.size := World.block_lt_of_cell? w _ hc
  have hB1 : Below w.heap.size w (w.alloc (.cells (idc p) 27)) := (Below.refl _ w).alloc (Nat.le_refl _) _
  have HC : Hid ((w.alloc (.cells (idc p) 27)).cell? ⟨bb, 0, none⟩ = some (.slice (some ⟨b, 0, none⟩) n cap)) := (hB1.cell hbb).trans hc
  have HR : Hid _ := hr.below hB1 hb
  have HL : Hid (∀ i, i < n → (f i).length = 20) := hl
  have HX : Hid _ := (Bx.new w (idc p) 27).id hp 27 Try.underlying27 size27
  have HB : Hid _ := hB1
  clear hc hr hl hB1
  go_enter Try.func9, Try.ntmps9
  go_wp2_with (refine wpList_ld (by rfl) _ 27 (by rfl) _ _ (by rfl) HX.out ?_)
  refine (has17 bb b n m cap f p _ hn hp HL.out HC.out HR.out (Nat.lt_of_lt_of_le hb HB.out.size)).mono ?_
  rintro e w' ⟨rfl, hb'⟩
  have HB' : Hid _ := HB.out.trans (hb'.mono HB.out.size)
  clear hb'
  go_wp2
  go_ret
  exact ⟨rfl, HB'.out⟩
end Go.Proofs.Qxb6603638a
