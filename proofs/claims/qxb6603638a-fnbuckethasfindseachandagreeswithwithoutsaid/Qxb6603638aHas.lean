/- WORK: the length test; zzCopyIDs; ZZnewBucket; (*bucket).has; ZZhas. -/
import Derived.Test.Qxb6603638aMem
import Derived.Deep.Cut
set_option linter.unusedVariables false
namespace Go.Proofs.Qxb6603638a
open Go.RowKit

def z20 : List UInt8 := List.replicate 20 0
def Sm (n : Nat) : Prop := n ≤ 1048576
set_option maxHeartbeats 800000 in
theorem bytes6 (a : Option Addr) (n c : Nat) (p : List UInt8) (w : World) (hn : n ≤ 9223372036854775807) :
    Calls Try.prog 6 #[.slice a n c, idv p] w fun e w' => (e = .returned (.bool false) ∨ (e = .returned (.bool true) ∧ Sm n)) ∧ Below w.heap.size w w' := by
  have HB : Hid (Below w.heap.size w (w.alloc (.cells (idc p) 23))) := (Below.refl _ w).alloc (Nat.le_refl _) _
  by_cases g2 : n ≤ 1048576
  · go_enter Try.func6, Try.ntmps6
    go_wp2
    go_loop [5, 6] (fun z i => ∃ k q : Nat, k ≤ n ∧ q ≤ 1048576 ∧ i = .int .i64 k ∧ z = .int .i64 q) (fun _ i => n - (intOf i).toNat)
    case atStart => exact ⟨0, n, Nat.zero_le _, g2, rfl, by go_num⟩
    case round =>
      obtain ⟨k, q, hk, hq, rfl, rfl⟩ := hrel
      by_cases hlt : k < n
      · go_upto_region 12 with fail
        have hq2 : ((q : Int) + 20) = ((q + 20 : Nat) : Int) := by omega
        rw [hq2]
        generalize hr : q + 20 = r
        clear hr hq2
        by_cases h20 : r ≤ 1048576
        · go_wp2
          go_round
          case rel => exact ⟨k + 1, r, by omega, h20, by go_num, rfl⟩
          case measure => simp [intOf]; omega
        · go_wp2
          go_ret
          exact ⟨.inl rfl, HB.out⟩
      · go_wp2
        go_ret
        exact ⟨.inr ⟨rfl, g2⟩, HB.out⟩
  · go_enter Try.func6, Try.ntmps6
    go_wp2
    go_ret
    exact ⟨.inl rfl, HB.out⟩

theorem make22 (w : World) (n : Nat) (hn : n ≤ 65536) : (Instr.makeSlice 22 (.int .i64 n) (.int .i64 n)).run Try.prog w = .ok (.slice (some ⟨w.heap.size, 0, none⟩) n n) (w.alloc (.cells (madeCells (idc z20) (n * 20)) 23)) := by
  obtain ⟨i, hi, hz0, hz1, hz2⟩ := info_parts (show (Try.prog.info? 23).map (fun i => (i.zero, i.size, i.bytes)) = some (some (idv z20), 20, 20) by kernel_rfl)
  have hr := run_make (P := Try.prog) w 22 23 i _ Try.underlying22 hi hz0 .i64 .i64 n n (by omega) (Int.le_refl _) (by rw [hz2]; omega) (by omega)
  simp only [Int.toNat_natCast, hz1] at hr
  exact hr
theorem make26 (w : World) (n : Nat) (hn : n ≤ 65536) : (Instr.makeSlice 26 (.int .i64 n) (.int .i64 n)).run Try.prog w = .ok (.slice (some ⟨w.heap.size, 0, none⟩) n n) (w.alloc (.cells (madeCells (ctc z20) (n * 24)) 40)) := by
  obtain ⟨i, hi, hz0, hz1, hz2⟩ := info_parts (show (Try.prog.info? 40).map (fun i => (i.zero, i.size, i.bytes)) = some (some (ctv z20), 24, 56) by kernel_rfl)
  have hr := run_make (P := Try.prog) w 26 40 i _ Try.underlying26 hi hz0 .i64 .i64 n n (by omega) (Int.le_refl _) (by rw [hz2]; omega) (by omega)
  simp only [Int.toNat_natCast, hz1] at hr
  exact hr
theorem Row.stI {w : World} {b n k : Nat} {f : Nat → List UInt8} (h : Row w b 20 n k (fun i => idl (f i))) (hk : k < n) (hl : (f k).length = 20) : (Instr.storeAt 23 (.pointer (some ⟨b, k * 20, none⟩)) (idv (f k))).run Try.prog w = .ok () (w.setCells b (k * 20) (idl (f k))) := by
  have := run_storeAt_mid (P := Try.prog) w b (k * 20) 23 (idc (f k)) (by rw [idc_size, hl]; exact h.there hk) (by rw [size23, idc_size, hl]) (all_oneCell_toArray (one_idl _))
  exact this
theorem Row.stC {w : World} {b n k : Nat} {f : Nat → List UInt8} (h : Row w b 24 n k (fun i => ctl (f i))) (hk : k < n) (hl : (f k).length = 20) : (Instr.storeAt 40 (.pointer (some ⟨b, k * 24, none⟩)) (ctv (f k))).run Try.prog w = .ok () (w.setCells b (k * 24) (ctl (f k))) := by
  have := run_storeAt_mid (P := Try.prog) w b (k * 24) 40 (ctc (f k)) (by rw [ctc_size, hl]; exact h.there hk) (by rw [size40, ctc_size, hl]) (all_oneCell_toArray (one_ctl _))
  exact this
theorem Row.ldI {w : World} {b n k i : Nat} {f : Nat → List UInt8} (h : Row w b 20 n k (fun i => idl (f i))) (hi : i < k) (hl : (f i).length = 20) : (Instr.loadAt 23 (.pointer (some ⟨b, i * 20, none⟩))).run Try.prog w = .ok (idv (f i)) w :=
  (h.at hi).load 23 _ Try.underlying23 rfl (by rw [size23, idl_length, hl])
theorem Row.ldC {w : World} {b n k i : Nat} {f : Nat → List UInt8} (h : Row w b 24 n k (fun i => ctl (f i))) (hi : i < k) (hl : (f i).length = 20) : (Instr.loadAt 40 (.pointer (some ⟨b, i * 24, none⟩))).run Try.prog w = .ok (ctv (f i)) w :=
  (h.at hi).load 40 _ Try.underlying40 rfl (by rw [size40, ctl_length, hl])
theorem At.ldI {w : World} {x : Addr} {l : List UInt8} (h : At w x (idl l)) (hl : l.length = 20) : (Instr.loadAt 23 (.pointer (some x))).run Try.prog w = .ok (idv l) w :=
  h.load 23 _ Try.underlying23 rfl (by rw [size23, idl_length, hl])

/-- A copy: no element, or a new row. -/
def Cl (w : World) (b : Nat) (a : Option Addr) (n : Nat) (f : Nat → List UInt8) : Prop := n = 0 ∨ (a = some ⟨b, 0, none⟩ ∧ b < w.heap.size ∧ Row w b 20 n n (fun i => idl (f i)))
theorem Cl.below {w w' : World} {b n : Nat} {a : Option Addr} {f : Nat → List UInt8} (h : Cl w b a n f) (hb : Below w.heap.size w w') : Cl w' b a n f := by
  rcases h with h | ⟨rfl, h0, h⟩
  · exact .inl h
  · exact .inr ⟨rfl, Nat.lt_of_lt_of_le h0 hb.size, h.below hb h0⟩

set_option maxHeartbeats 400000 in
theorem copy_nil (w : World) : Calls Try.prog 7 #[.slice none 0 0] w fun e w' => e = .returned (.slice none 0 0) ∧ w' = w := by
  have heq := fun w => Lib.run_eql_slice_nil (P := Try.prog) w 22 23 none 0 0 0 0 Try.underlying22
  go_enter Try.func7, Try.ntmps7
  go_wp2
  go_ret
  exact ⟨rfl, rfl⟩
set_option maxHeartbeats 400000 in
theorem copy_some (x : Addr) (n cap : Nat) (f : Nat → List UInt8) (w : World) (hn : n ≤ 4096) (hc : RdI w x n f) (hx0 : 0 < n → x.block < w.heap.size) :
    Calls Try.prog 7 #[.slice (some x) n cap] w fun e w' => e = .returned (.slice (some ⟨w.heap.size, 0, none⟩) n n) ∧ Below w.heap.size w w' ∧ w.heap.size < w'.heap.size ∧ Row w' w.heap.size 20 n n (fun i => idl (f i)) := by
  have heq := fun w => Lib.run_eql_slice_nil (P := Try.prog) w 22 23 (some x) n cap 0 0 Try.underlying22
  have hmk := fun w => make22 w n (by omega)
  have HC : Hid (RdI w x n f) := hc
  clear hc
  go_enter Try.func7, Try.ntmps7
  go_wp2
  go_loopw [4] (fun i wr => ∃ k : Nat, k ≤ n ∧ i = .int .i64 k ∧ Row wr w.heap.size 20 n k (fun i => idl (f i)) ∧ Below w.heap.size w wr ∧ w.heap.size < wr.heap.size) (fun i _ => n - (intOf i).toNat)
  case atStart => exact ⟨0, Nat.zero_le _, rfl, Row.made w _ 23 20 n _, (Below.refl _ _).alloc (Nat.le_refl _) _, by simp⟩
  case round =>
    obtain ⟨k, hk, rfl, hrow, hb, hsz⟩ := hrel
    by_cases hlt : k < n
    · have hx := hx0 (by omega)
      obtain ⟨hl, hat⟩ := HC.out k hlt
      have HL : Hid _ := (hat.below hb (by rw [add_block]; exact hx)).ldI hl
      have HS : Hid _ := hrow.stI hlt hl
      have HR : Hid (Row (wr.setCells w.heap.size (k * 20) (idl (f k))) w.heap.size 20 n (k + 1) (fun i => idl (f i))) := hrow.store hlt (by rw [idl_length, hl])
      have hb' := below_setCells (B := w.heap.size) w.heap.size (Nat.le_refl _) (idl (f k)) (k * 20) wr
      have HB : Hid (Below w.heap.size w (wr.setCells w.heap.size (k * 20) (idl (f k)))) := hb.trans hb'
      have HZ : Hid (w.heap.size < (wr.setCells w.heap.size (k * 20) (idl (f k))).heap.size) := Nat.lt_of_lt_of_le hsz hb'.size
      clear hrow hb hat hb' hsz
      generalize wr.setCells w.heap.size (k * 20) (idl (f k)) = w2 at *
      go_wp2_with (first
        | (refine wpList_ld (by rfl) _ 23 (by rfl) _ _ (by rfl) HL.out ?_)
        | (refine wpList_st (by rfl) _ _ 23 (by rfl) _ _ (by rfl) (by rfl) HS.out ?_))
      go_roundw
      case rel => exact ⟨k + 1, by omega, by go_num, HR.out, HB.out, HZ.out⟩
      case measure => simp [intOf]; omega
    · have hkn : n = k := by omega
      subst hkn
      have HR : Hid _ := hrow
      clear hrow
      go_wp2
      go_ret
      exact ⟨rfl, hb, hsz, HR.out⟩
theorem copy_own (a : Option Addr) (n cap : Nat) (f : Nat → List UInt8) (w : World) (hn : n ≤ 4096) (h : Own w a n f) (hnil : a = none → n = 0 ∧ cap = 0) :
    Calls Try.prog 7 #[.slice a n cap] w fun e w' => ∃ a', e = .returned (.slice a' n n) ∧ Below w.heap.size w w' ∧ Cl w' w.heap.size a' n f := by
  cases a with
  | none =>
    obtain ⟨rfl, rfl⟩ := hnil rfl
    refine (copy_nil w).mono ?_
    rintro e w' ⟨rfl, rfl⟩
    exact ⟨none, rfl, Below.refl _ _, .inl rfl⟩
  | some x =>
    have hx0 : 0 < n → x.block < w.heap.size := fun h0 => by
      rcases h with h | ⟨y, hy, hx, _⟩
      · omega
      · obtain rfl := Option.some.inj hy; exact hx
    have hc : RdI w x n f := by
      rcases h with h | ⟨y, hy, _, hc⟩
      · intro i hi; omega
      · obtain rfl := Option.some.inj hy; exact hc
    refine (copy_some x n cap f w hn hc hx0).mono ?_
    rintro e w' ⟨rfl, hb, hs, hr⟩
    exact ⟨_, rfl, hb, .inr ⟨rfl, hs, hr⟩⟩
end Go.Proofs.Qxb6603638a
