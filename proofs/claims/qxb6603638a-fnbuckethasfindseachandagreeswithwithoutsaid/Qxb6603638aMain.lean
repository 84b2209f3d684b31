/- WORK: the law FnBucketHasFindsEachAndAgreesWithWithout: its walk. -/
import Derived.Test.Qxb6603638aWo
import Derived.OrdersHeld
set_option linter.unusedVariables false
namespace Go.Proofs.Qxb6603638a
open Go.RowKit

theorem Alk.refl (w : World) : Alk w w := ⟨rfl, rfl, rfl, rfl⟩
theorem Alk.trans {a b c : World} (h : Alk a b) (k : Alk b c) : Alk a c := ⟨k.1.trans h.1, k.2.1.trans h.2.1, k.2.2.1.trans h.2.2.1, k.2.2.2.trans h.2.2.2⟩

section
variable {P : Program} {md : Region.Mode} {ops : Array Oper} {Q : Exit → Act → World → Prop} {S : World → Prop} {a : Act} {w : World} {o : Oper}
/-- The one operation that may come up. -/
theorem any_one {fuel i : Nat} {listed : Array Bool} (hr : Region.ready md ops listed = [i]) (ho : ops[i]? = some o) (hg : o.guard = none) (h : o.wp P a w (fun a' w' => S w' ∧ wpAnyH P md ops Q S fuel (listed.setIfInBounds i true) a' w') Q) : wpAnyH P md ops Q S (fuel + 1) listed a w := by
  refine wpAnyH_all hr (by simp) (fun j hj => ?_)
  obtain rfl : j = i := by simpa using hj
  unfold wpOp
  rw [ho]
  have hw : Region.wanted o (yielded ops a.tmps) = true := by simp [Region.wanted, hg]
  simp only [hw, if_true]
  exact .inl h
theorem wp_go {K : Act → World → Prop} (f : FuncId) (args : Array Value) (hrun : (execOp a.eval o).run P w = .ok (.enter f args) w) (hc : Calls P f args w fun e w'' => ∃ v, e = .returned v ∧ K (a.put o.dst v) w'') : o.wp P a w K Q := by
  unfold Oper.wp
  rw [hrun, Oper.upon_enter]
  refine hc.mono fun e w'' hh => ?_
  obtain ⟨v, rfl, h⟩ := hh
  exact h
theorem wp_val {K : Act → World → Prop} (v : Value) (hrun : (execOp a.eval o).run P w = .ok (.value v) w) (h : K (a.put o.dst v) w) : o.wp P a w K Q := by
  unfold Oper.wp
  rw [hrun]
  exact h
end

set_option maxHeartbeats 1600000 in
set_option maxRecDepth 100000 in
theorem bucket_any (a : Option Addr) (n c : Nat) (f : Nat → List UInt8) (p : List UInt8) (w : World) (hn : n ≤ 9223372036854775807) (hp : p.length = 20) (ho : Own w a n f) (hnil : a = none → n = 0 ∧ c = 0) :
    Calls Try.prog 3 #[.slice a n c, idv p] w fun e w' => e = .returned (.bool true) ∧ Below w.heap.size w w' := by
  have hB1 : Below w.heap.size w (w.alloc (.cells (idc p) 23)) := (Below.refl _ w).alloc (Nat.le_refl _) _
  have HB1 : Hid _ := hB1
  have HX1 : Hid (Bx (w.alloc (.cells (idc p) 23)) w.heap.size (idc p) 23) := Bx.new w (idc p) 23
  have HL1 : Hid _ := (Bx.new w (idc p) 23).id hp 23 Try.underlying23 size23
  have HO1 : Hid (Own (w.alloc (.cells (idc p) 23)) a n f) := ho.below hB1
  have HNIL : Hid (a = none → n = 0 ∧ c = 0) := hnil
  clear ho hnil hB1
  go_enter Try.func3, Try.ntmps3
  go_wp2_with (refine wpList_ld (by rfl) _ 23 (by rfl) _ _ (by rfl) HL1.out ?_)
  generalize w.alloc (.cells (idc p) 23) = w1 at *
  clear HL1
  refine (bytes6 a n c p w1 hn).mono ?_
  rintro e w2 ⟨he, hb2⟩
  have HB2 : Hid (Below w1.heap.size w1 w2) := hb2
  clear hb2
  rcases he with rfl | ⟨rfl, hS⟩
  · go_wp2
    go_ret
    exact ⟨rfl, HB1.out.trans (HB2.out.mono HB1.out.size)⟩
  clear hS
  by_cases hn4 : n ≤ 4096
  rotate_left
  · go_wp2
    go_ret
    exact ⟨rfl, HB1.out.trans (HB2.out.mono HB1.out.size)⟩
  go_wp2
  go_loopw [5, 6] (fun i r wr => ∃ q : Nat, q ≤ n ∧ i = .int .i64 q ∧ Hid (∀ i j, i < j → j < q → f i ≠ f j) ∧ Alk w2 wr) (fun i _ _ => n - (intOf i).toNat)
  case atStart => exact ⟨0, Nat.zero_le _, rfl, fun i j _ hj => by omega, Alk.refl _⟩
  case round =>
    obtain ⟨q, hq, rfl, HD, hwr⟩ := hrel
    have HW : Hid (Alk w2 wr) := hwr
    clear hwr
    by_cases hlt : q < n
    · go_wp2
      go_loopw [6] (fun i wr => ∃ r : Nat, r ≤ q ∧ i = .int .i64 r ∧ Hid (∀ i, i < r → f i ≠ f q) ∧ Alk w2 wr) (fun i _ => q - (intOf i).toNat)
      case atStart => exact ⟨0, Nat.zero_le _, rfl, fun i hi => by omega, HW.out⟩
      case round =>
        obtain ⟨r, hr, rfl, HE, hwr⟩ := hrel
        have HW2 : Hid (Alk w2 wr) := hwr
        clear hwr
        by_cases hlt2 : r < q
        · rcases Own.below HO1.out HB2.out with ho | ⟨x, rfl, hx, hc⟩
          · omega
          have hrn : r < n := by omega
          obtain ⟨lr, ar⟩ := hc r hrn
          obtain ⟨lq, aq⟩ := hc q hlt
          have HQ : Hid (∀ w5, Alk w2 w5 → (Instr.loadAt 23 (.pointer (some (x.add (r * 20))))).run Try.prog w5 = .ok (idv (f r)) w5 ∧ (Instr.loadAt 23 (.pointer (some (x.add (q * 20))))).run Try.prog w5 = .ok (idv (f q)) w5 ∧ (binOp .eql 23 (idv (f r)) (idv (f q))).run Try.prog w5 = .ok (.bool (f r == f q)) w5) :=
            fun w5 h5 => ⟨(ar.alk h5).ldI lr, (aq.alk h5).ldI lq, eq_id 23 Try.underlying23 _ _ lr lq w5⟩
          have HY : Hid ((f r == f q) = false → ∀ i, i < r + 1 → f i ≠ f q) := by
            intro hne i hi
            by_cases e : i = r
            · rw [e]; exact fun e' => by rw [e'] at hne; simp at hne
            · exact HE.out i (by omega)
          clear hc ar aq lr lq hx
          go_wp2_with fail
          refine region_tail 8 mixed (by kernel_rfl) (fun w5 ha => ?_)
          obtain ⟨g1, g2, g3⟩ := HQ.out w5 (Alk.trans HW2.out ha)
          have G1 : Hid _ := g1
          have G2 : Hid _ := g2
          have G3 : Hid _ := g3
          have HW5 : Hid (Alk w2 w5) := Alk.trans HW2.out ha
          clear g1 g2 g3 HQ ha
          generalize (f r == f q) = bq at *
          simp only [List.take_succ_cons, List.take_zero, List.drop_succ_cons, List.drop_zero]
          still_step
          still_step
          still_step
          refine wpStill_step (fun K hK => still_load (by rfl) _ 23 (by rfl) _ _ (by rfl) G1.out (hK _ ?_))
          still_step
          still_step
          still_step
          refine wpStill_step (fun K hK => still_load (by rfl) _ 23 (by rfl) _ _ (by rfl) G2.out (hK _ ?_))
          refine wpStill_nil ?_
          refine wpList_eq (by rfl) _ _ 23 23 (by rfl) _ _ _ (by rfl) (by rfl) guard23 G3.out ?_
          cases bq
          · have HY2 : Hid (∀ i, i < r + 1 → f i ≠ f q) := HY.out rfl
            clear HY
            go_wp2
            go_roundw
            case rel => exact ⟨r + 1, by omega, by go_num, HY2, HW5.out⟩
            case measure => simp [intOf]; omega
          · clear HY
            go_wp2
            go_ret
            exact ⟨rfl, HB1.out.trans ((HB2.out.trans (Alk.below _ HW5.out)).mono HB1.out.size)⟩
        · have HD2 : Hid (∀ i j, i < j → j < q + 1 → f i ≠ f j) := by
            intro i j hij hj
            by_cases e : j = q
            · subst e; exact HE.out i (by omega)
            · exact HD.out i j hij (by omega)
          go_wp2
          go_roundw
          case rel => exact ⟨q + 1, by omega, by go_num, HD2, HW2.out⟩
          case measure => simp [intOf]; omega
    have HDD : Hid (∀ i j, i < j → j < n → f i ≠ f j) := fun i j h1 h2 => HD.out i j h1 (by omega)
    have HBr : Hid (Below w1.heap.size w1 wr) := HB2.out.trans (Alk.below _ HW.out)
    clear HD HW HB2
    go_wp2_with fail
    refine (copy_own a n c f wr hn4 (Own.below HO1.out HBr.out) HNIL.out).mono ?_
    rintro e w3 ⟨a', rfl, hb3, hcl3⟩
    have HB3 : Hid (Below w1.heap.size w1 w3) := HBr.out.trans (hb3.mono HBr.out.size)
    have HCL : Hid (Cl w3 wr.heap.size a' n f) := hcl3
    clear hb3 hcl3
    have hmk := fun w => make26 w n (by omega)
    have HR4 : Hid (Row (w3.alloc (.cells (madeCells (ctc z20) (n * 24)) 40)) w3.heap.size 24 n 0 (fun i => ctl (f i))) := Row.made w3 _ 40 24 n _
    have HB4 : Hid (Below w3.heap.size w3 (w3.alloc (.cells (madeCells (ctc z20) (n * 24)) 40))) := (Below.refl _ w3).alloc (Nat.le_refl _) _
    have HZ4 : Hid (w3.heap.size < (w3.alloc (.cells (madeCells (ctc z20) (n * 24)) 40)).heap.size) := by unfold Hid; simp
    go_wp2
    generalize w3.alloc (.cells (madeCells (ctc z20) (n * 24)) 40) = w4 at *
    go_loopw [8] (fun i wr => ∃ k : Nat, k ≤ n ∧ i = .int .i64 k ∧ Row wr w3.heap.size 24 n k (fun i => ctl (f i)) ∧ Below w3.heap.size w3 wr ∧ w3.heap.size < wr.heap.size) (fun i _ => n - (intOf i).toNat)
    case atStart => exact ⟨0, Nat.zero_le _, rfl, HR4.out, HB4.out, HZ4.out⟩
    case round =>
      obtain ⟨k, hk, rfl, hrow, hb, hsz⟩ := hrel
      by_cases hlt : k < n
      · have hfl : (f k).length = 20 := by
          rcases HO1.out with h0 | ⟨x, _, _, hx⟩
          · omega
          · exact (hx k hlt).1
        rcases HCL.out with h0 | ⟨rfl, hlt3, hrc⟩
        · omega
        have HLD : Hid _ := (hrc.below hb hlt3).ldI hlt hfl
        have HBD : Hid _ := build40 (f k) hfl wr
        have HST : Hid _ := hrow.stC hlt hfl
        have hb' := below_setCells (B := w3.heap.size) w3.heap.size (Nat.le_refl _) (ctl (f k)) (k * 24) wr
        have HR : Hid (Row (wr.setCells w3.heap.size (k * 24) (ctl (f k))) w3.heap.size 24 n (k + 1) (fun i => ctl (f i))) := hrow.store hlt (by rw [ctl_length, hfl])
        have HB : Hid (Below w3.heap.size w3 (wr.setCells w3.heap.size (k * 24) (ctl (f k)))) := hb.trans hb'
        have HZ : Hid (w3.heap.size < (wr.setCells w3.heap.size (k * 24) (ctl (f k))).heap.size) := Nat.lt_of_lt_of_le hsz hb'.size
        clear hrow hb hsz hb' hrc hfl
        generalize wr.setCells w3.heap.size (k * 24) (ctl (f k)) = w5 at *
        go_wp2_with (first
          | (refine wpList_ld (by rfl) _ 23 (by rfl) _ _ (by rfl) HLD.out ?_)
          | (refine wpList_bd (by rfl) _ 40 0 (by rfl) _ _ (by rfl) HBD.out ?_)
          | (refine wpList_st (by rfl) _ _ 40 (by rfl) _ _ (by rfl) (by rfl) HST.out ?_))
        go_roundw
        case rel => exact ⟨k + 1, by omega, by go_num, HR.out, HB.out, HZ.out⟩
        case measure => simp [intOf]; omega
      have hkn : n = k := by omega
      subst hkn
      have HLN : Hid (∀ i, i < n → (f i).length = 20) := by
        intro i hi
        rcases HO1.out with h0 | ⟨x, _, _, hx⟩
        · omega
        · exact (hx i hi).1
      have HRc : Hid (Row wr w3.heap.size 24 n n (fun i => ctl (f i))) := hrow
      have HBc : Hid (Below w3.heap.size w3 wr) := hb
      have HZc : Hid (w3.heap.size < wr.heap.size) := hsz
      clear hrow hb hsz HR4 HB4 HZ4
      go_wp2_with fail
      refine (new8 (some ⟨w3.heap.size, 0, none⟩) n n wr).mono ?_
      rintro e w6 ⟨rfl, hb6, hc6, hz6⟩
      have HC6 : Hid (w6.cell? ⟨wr.heap.size, 0, none⟩ = some (.slice (some ⟨w3.heap.size, 0, none⟩) n n)) := hc6
      have HR6 : Hid (Row w6 w3.heap.size 24 n n (fun i => ctl (f i))) := Row.below HRc.out hb6 HZc.out
      have HB6 : Hid (Below w3.heap.size w3 w6) := HBc.out.trans (hb6.mono HBc.out.size)
      have HZ6 : Hid (wr.heap.size < w6.heap.size) := hz6
      have HY6 : Hid (w3.heap.size < w6.heap.size) := Nat.lt_of_lt_of_le HZc.out hb6.size
      clear hb6 hc6 hz6
      go_wp2
      generalize wr.heap.size = bb at *
      go_loopw [10] (fun i wr => ∃ k : Nat, k ≤ n ∧ i = .int .i64 k ∧ Below w6.heap.size w6 wr) (fun i _ => n - (intOf i).toNat)
      case atStart => exact ⟨0, Nat.zero_le _, rfl, Below.refl _ _⟩
      case round =>
        obtain ⟨k, hk, rfl, hb⟩ := hrel
        by_cases hlt : k < n
        · have hfl := HLN.out k hlt
          rcases HCL.out with h0 | ⟨rfl, hlt3, hrc⟩
          · omega
          have HLD : Hid _ := ((hrc.below HB6.out hlt3).below hb (Nat.lt_trans hlt3 HY6.out)).ldI hlt hfl
          have HBk : Hid (Below w6.heap.size w6 wr) := hb
          have hm : memF f n (f k) = true := memF_yes hlt rfl
          have hcall := zzhas bb w3.heap.size n n n f (f k) wr hn4 hfl HLN.out ((hb.cell HZ6.out).trans HC6.out) (Row.below HR6.out hb HY6.out) (Nat.lt_of_lt_of_le HY6.out hb.size)
          rw [hm] at hcall
          have HCA : Hid _ := hcall
          clear hcall hm hb hrc hfl
          go_wp2_with (refine wpList_ld (by rfl) _ 23 (by rfl) _ _ (by rfl) HLD.out ?_)
          refine Calls.mono HCA.out ?_
          rintro e w7 ⟨rfl, hb7⟩
          have HB7 : Hid (Below w6.heap.size w6 w7) := HBk.out.trans (hb7.mono HBk.out.size)
          clear hb7
          go_wp2
          go_roundw
          case rel => exact ⟨k + 1, by omega, by go_num, HB7.out⟩
          case measure => simp [intOf]; omega
        have HBk : Hid (Below w6.heap.size w6 wr) := hb
        have HC7 : Hid (wr.cell? ⟨bb, 0, none⟩ = some (.slice (some ⟨w3.heap.size, 0, none⟩) n n)) := (hb.cell HZ6.out).trans HC6.out
        have HR7 : Hid (Row wr w3.heap.size 24 n n (fun i => ctl (f i))) := Row.below HR6.out hb HY6.out
        have HY7 : Hid (w3.heap.size < wr.heap.size) := Nat.lt_of_lt_of_le HY6.out hb.size
        have HZ7 : Hid (bb < wr.heap.size) := Nat.lt_of_lt_of_le HZ6.out hb.size
        have HB7 : Hid (Below w1.heap.size w1 wr) := HB3.out.trans ((HB6.out.trans (hb.mono (Nat.le_of_lt HY6.out))).mono HB3.out.size)
        have HRo : Hid (Row (wr.alloc (.cells (madeCells (ctc z20) (n * 24)) 40)) wr.heap.size 24 n 0 (fun i => ctl (f i))) := Row.made wr _ 40 24 n _
        have HBo : Hid (Below wr.heap.size wr (wr.alloc (.cells (madeCells (ctc z20) (n * 24)) 40))) := (Below.refl _ wr).alloc (Nat.le_refl _) _
        have HZo : Hid (wr.heap.size < (wr.alloc (.cells (madeCells (ctc z20) (n * 24)) 40)).heap.size) := by unfold Hid; simp
        clear hb HBk HC6 HR6 HY6 HZ6
        go_wp2
        generalize hwr : wr = w7 at *
        generalize w7.alloc (.cells (madeCells (ctc z20) (n * 24)) 40) = w8 at *
        go_loopw [12] (fun i wr => ∃ k : Nat, k ≤ n ∧ i = .int .i64 k ∧ Row wr w7.heap.size 24 n k (fun i => ctl (f i)) ∧ Below w7.heap.size w7 wr ∧ w7.heap.size < wr.heap.size) (fun i _ => n - (intOf i).toNat)
        case atStart => exact ⟨0, Nat.zero_le _, rfl, HRo.out, HBo.out, HZo.out⟩
        case round =>
          obtain ⟨k, hk, rfl, hrow, hb, hsz⟩ := hrel
          by_cases hlt : k < n
          · have hfl := HLN.out k hlt
            have HLD : Hid _ := (Row.below HR7.out hb HY7.out).ldC hlt hfl
            have HST : Hid _ := hrow.stC hlt hfl
            have hb' := below_setCells (B := w7.heap.size) w7.heap.size (Nat.le_refl _) (ctl (f k)) (k * 24) wr
            have HR : Hid (Row (wr.setCells w7.heap.size (k * 24) (ctl (f k))) w7.heap.size 24 n (k + 1) (fun i => ctl (f i))) := hrow.store hlt (by rw [ctl_length, hfl])
            have HB : Hid (Below w7.heap.size w7 (wr.setCells w7.heap.size (k * 24) (ctl (f k)))) := hb.trans hb'
            have HZ : Hid (w7.heap.size < (wr.setCells w7.heap.size (k * 24) (ctl (f k))).heap.size) := Nat.lt_of_lt_of_le hsz hb'.size
            clear hrow hb hsz hb' hfl
            generalize wr.setCells w7.heap.size (k * 24) (ctl (f k)) = w9 at *
            go_wp2_with (first
              | (refine wpList_ld (by rfl) _ 40 (by rfl) _ _ (by rfl) HLD.out ?_)
              | (refine wpList_st (by rfl) _ _ 40 (by rfl) _ _ (by rfl) (by rfl) HST.out ?_))
            go_roundw
            case rel => exact ⟨k + 1, by omega, by go_num, HR.out, HB.out, HZ.out⟩
            case measure => simp [intOf]; omega
          have hkn : n = k := by omega
          subst hkn
          have hob : w1.heap.size ≤ w7.heap.size := HB7.out.size
          have hpb : w.heap.size < w1.heap.size := Bx.lt HX1.out
          have HROW : Hid (Row wr w7.heap.size 24 n n (fun i => ctl (f i))) := hrow
          have HSZ : Hid (w7.heap.size < wr.heap.size) := hsz
          have HB9 : Hid (Below w1.heap.size w1 wr) := HB7.out.trans (hb.mono hob)
          have HC9 : Hid (wr.cell? ⟨bb, 0, none⟩ = some (.slice (some ⟨w3.heap.size, 0, none⟩) n n)) := (hb.cell HZ7.out).trans HC7.out
          have HR9 : Hid (Row wr w3.heap.size 24 n n (fun i => ctl (f i))) := Row.below HR7.out hb HY7.out
          have HLP : Hid _ := (Bx.below HX1.out HB9.out hpb).id hp 23 Try.underlying23 size23
          have HYb : Hid (w3.heap.size < wr.heap.size) := Nat.lt_trans HY7.out hsz
          have HZb : Hid (bb < wr.heap.size) := Nat.lt_trans HZ7.out hsz
          clear hrow hb hsz HRo HBo HZo
          go_wp2_with (refine wpList_ld (by rfl) _ 23 (by rfl) _ _ (by rfl) HLP.out ?_)
          refine (zzwithout w7.heap.size n f p wr hn4 hp HLN.out HDD.out HROW.out HSZ.out).mono ?_
          rintro e wA ⟨m, g, rfl, hm, hrA, hlA, hnA, hgA⟩
          have hbA : Below w1.heap.size wr wA := (Below.refl _ _).grown hgA HB9.out.size (fun k hk => by have := Option.some.inj hk; omega)
          have HBA : Hid (Below w1.heap.size w1 wA) := HB9.out.trans hbA
          have HCA : Hid (wA.cell? ⟨bb, 0, none⟩ = some (.slice (some ⟨w3.heap.size, 0, none⟩) n n)) := hgA.cell HC9.out (by intro e; have := Option.some.inj e; exact absurd HZ7.out (by show ¬ bb < w7.heap.size; rw [← this]; exact Nat.lt_irrefl _))
          have HRA : Hid (Row wA w3.heap.size 24 n n (fun i => ctl (f i))) := Row.kept HR9.out (hgA.block _ HYb.out (by intro e; have := Option.some.inj e; exact absurd HY7.out (by rw [this]; exact Nat.lt_irrefl _)))
          have HYA : Hid (w3.heap.size < wA.heap.size) := Nat.lt_of_lt_of_le HYb.out hgA.size
          have HOA : Hid (Row wA w7.heap.size 24 n m (fun i => ctl (g i))) := hrA
          have HSA : Hid (w7.heap.size < wA.heap.size) := Nat.lt_of_lt_of_le HSZ.out hgA.size
          have HLA : Hid (∀ i, i < m → (g i).length = 20) := hlA
          have HNA : Hid (memF g m p = false) := hnA
          have HLPA : Hid _ := (Bx.below HX1.out HBA.out hpb).id hp 23 Try.underlying23 size23
          clear hrA hlA hnA hgA hbA
          have hhas := zzhas bb w3.heap.size n n n f p wA hn4 hp HLN.out HCA.out HRA.out HYA.out
          generalize memF f n p = took at *
          have HHA : Hid _ := hhas
          clear hhas
          go_wp2_with (refine wpList_ld (by rfl) _ 23 (by rfl) _ _ (by rfl) HLPA.out ?_)
          refine Calls.mono HHA.out ?_
          rintro e wB ⟨rfl, hbB⟩
          have HBB : Hid (Below w1.heap.size w1 wB) := HBA.out.trans (hbB.mono HBA.out.size)
          have HOB : Hid (Row wB w7.heap.size 24 n m (fun i => ctl (g i))) := Row.below HOA.out hbB HSA.out
          have HSB : Hid (w7.heap.size < wB.heap.size) := Nat.lt_of_lt_of_le HSA.out hbB.size
          have HXB : Hid (Bx wB w.heap.size (idc p) 23) := Bx.below HX1.out HBB.out hpb
          clear hbB HHA
          cases took
          all_goals
            go_wp2_with fail
            refine wp_region_held (S := fun w' => Bx w' w.heap.size (idc p) 23) mixed ?_
            have hAl : Alk wB { wB with drawn := wB.drawn + 1 } := ⟨rfl, rfl, rfl, rfl⟩
            generalize ({ wB with drawn := wB.drawn + 1 } : World) = wC at hAl ⊢
            have hXC : Bx wC w.heap.size (idc p) 23 := (show _ = _ from by rw [hAl.1]; exact HXB.out)
            have hBC : Below w1.heap.size w1 wC := HBB.out.trans (hAl.below _)
            have hOC : Row wC w7.heap.size 24 n m (fun i => ctl (g i)) := Row.kept HOB.out (by rw [hAl.1])
            have hSC : w7.heap.size < wC.heap.size := by rw [hAl.1]; exact HSB.out
            refine wpAnyH_take (fuel := 5) (i := 2) (v := idv p) rfl (by kernel_rfl) (by kernel_rfl) (by kernel_rfl) (fun _ _ _ h => h) (yieldsIf_load_mid (by rfl) 23 _ (by rfl) w.heap.size 0 (by rfl) (idl p) _ (fun w' h => Bx.range h) Try.underlying23 rfl (by rw [size23, idl_length, hp])) hXC ?_
            refine any_one (fuel := 4) (i := 0) (by kernel_rfl) rfl rfl (wp_val (.slice (some ⟨w7.heap.size, 0, none⟩) m n) (by kernel_rfl) ⟨hXC, ?_⟩)
            refine any_one (fuel := 3) (i := 1) (by kernel_rfl) rfl rfl (wp_go 8 #[.slice (some ⟨w7.heap.size, 0, none⟩) m n] (by kernel_rfl) ((new8 (some ⟨w7.heap.size, 0, none⟩) m n wC).mono ?_))
            rintro e wD ⟨rfl, hbD, hcD, hzD⟩
            refine ⟨_, rfl, Bx.below hXC hbD (Nat.lt_of_lt_of_le hpb hBC.size), ?_⟩
            refine any_one (fuel := 2) (i := 3) (by kernel_rfl) rfl rfl (wp_go 9 #[.pointer (some ⟨wC.heap.size, 0, none⟩), idv p] (by kernel_rfl) ((zzhas wC.heap.size w7.heap.size m n n g p wD (by omega) hp HLA.out hcD (Row.below hOC hbD hSC) (Nat.lt_trans hSC hzD)).mono ?_))
            rintro e wE ⟨rfl, hbE⟩
            rw [HNA.out]
            have hXE : Bx wE w.heap.size (idc p) 23 := Bx.below (Bx.below hXC hbD (Nat.lt_of_lt_of_le hpb hBC.size)) hbE (Nat.lt_of_lt_of_le (Nat.lt_of_lt_of_le hpb hBC.size) hbD.size)
            refine ⟨_, rfl, hXE, ?_⟩
            refine any_one (fuel := 1) (i := 4) (by kernel_rfl) rfl rfl (wp_val (.bool true) (by kernel_rfl) ⟨hXE, ?_⟩)
            refine any_one (fuel := 0) (i := 5) (by kernel_rfl) rfl rfl (wp_val (.bool true) (by kernel_rfl) ⟨hXE, ?_⟩)
            refine wpAnyH_done (by kernel_rfl) ?_ 0
            have HBE : Hid (Below w1.heap.size w1 wE) := hBC.trans ((hbD.mono hBC.size).trans (hbE.mono (Nat.le_trans hBC.size hbD.size)))
            clear hXE hbE hbD hcD hzD hXC hBC hOC hSC hAl
            refine (show wpList Try.prog #[] (Exit.then _ _) [] _ _ from ?_)
            go_wp2
            go_ret
            exact ⟨by kernel_rfl, HB1.out.trans (HBE.out.mono HB1.out.size)⟩
end Go.Proofs.Qxb6603638a
