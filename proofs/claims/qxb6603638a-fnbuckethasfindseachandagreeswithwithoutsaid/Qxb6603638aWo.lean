/- WORK: without; ZZwithout. -/
import Derived.Test.Qxb6603638aBkt
set_option linter.unusedVariables false
namespace Go.Proofs.Qxb6603638a
open Go.RowKit

theorem wpList_ap {P : Program} {w w' : World} {ops : Array Oper} {rest : List Oper} {o : Oper} {a : Act} {Q : Exit → Act → World → Prop} (hg : o.guard = none) (s x : Operand) (t : TypeId) (ho : o.op = .call { callee := .builtin .append, args := #[s, x], argTypes := #[t, t] }) (p q v : Value) (hs : a.eval s = p) (hx : a.eval x = q)
    (hr : (Builtin.append_ #[t, t] o.type #[p, q]).run P w = .ok v w') (h : wpList P ops Q rest (a.put o.dst v) w') : wpList P ops Q (o :: rest) a w := by
  refine wpList_plain hg fun K hK => ?_
  unfold Oper.wp execOp
  simp only [ho, resolve, invoke, builtin, Sem.run_bind, Sem.run_pure, Result.andThen_ok, List.map_toArray, List.map_cons, List.map_nil, hs, hx, hr]
  exact hK _ _ h

theorem still_slice {P : Program} {w : World} {ops : Array Oper} {o : Oper} {a : Act} {K : Act → Prop} (hgd : o.guard = none) (x lo : Operand) (t : TypeId) (ho : o.op = .slice t x (some lo) none none) (p q v : Value) (hx : a.eval x = p) (hlo : a.eval lo = q)
    (hr : (Instr.sliceAt t p (some q) none none).run P w = .ok v w) (h : K (a.put o.dst v)) : if Region.wanted o (yielded ops a.tmps) then o.still P a w K else K (a.put o.dst undef) := by
  have hw : Region.wanted o (yielded ops a.tmps) = true := by simp [Region.wanted, hgd]
  rw [if_pos hw]
  unfold Oper.still execOp
  simp only [ho, hx, hlo, Option.map_some, Option.map_none, Sem.run_bind, Sem.run_pure, hr, Result.andThen_ok]
  exact ⟨rfl, h⟩
theorem slice_lo (b n l : Nat) (hl : l ≤ n) (hn : n ≤ 4096) (w : World) : (Instr.slice 26 (.slice (some ⟨b, 0, none⟩) n n) (some (.int .i64 (l : Int))) none none).run Try.prog w = .ok (.slice (some (if n = l then ⟨b, 0, none⟩ else (⟨b, 0, none⟩ : Addr).add (l * 24))) (n - l) (n - l)) w := by
  have h2 : (l : Int) ≤ n := by omega
  by_cases hc : n = l
  · subst hc
    simp [Instr.slice, run_underlying Try.underlying26, Instr.sliceBounds, run_sliceBound, Try.sizeOf40]
  · simp [Instr.slice, run_underlying Try.underlying26, Instr.sliceBounds, run_sliceBound, Try.sizeOf40, hc, h2]
/-- Where list[k+1:] begins. -/
def tl (b n k : Nat) : Addr := if n = k + 1 then ⟨b, 0, none⟩ else (⟨b, 0, none⟩ : Addr).add ((k + 1) * 24)
theorem slice2 (b n k : Nat) (hk : k < n) (hn : n ≤ 4096) (w : World) : (Instr.sliceAt 26 (.slice (some ⟨b, 0, none⟩) n n) (some (.int .i64 (IntKind.i64.wrap ((k : Int) + 1)))) none none).run Try.prog w = .ok (.slice (some (tl b n k)) (n - (k + 1)) (n - (k + 1))) w := by
  have hw : IntKind.i64.wrap ((k : Int) + 1) = ((k + 1 : Nat) : Int) := by rw [IntKind.wrap_i64]; omega
  rw [hw, run_sliceAt_slice _ _ _ _ _ _ Try.underlying26]
  exact slice_lo b n (k + 1) hk hn w

/-- The cells of m elements. -/
def news (G : Nat → List Value) (m : Nat) : List Value := (List.range m).flatMap G
theorem news_succ (G : Nat → List Value) (m : Nat) : news G (m + 1) = news G m ++ G m := by simp [news, List.range_succ]
theorem news_length (G : Nat → List Value) : ∀ m, (∀ d, d < m → (G d).length = 24) → (news G m).length = m * 24
  | 0, _ => rfl
  | m + 1, h => by rw [news_succ, List.length_append, news_length G m (fun d hd => h d (by omega)), h m (by omega)]; omega
theorem news_get (G : Nat → List Value) : ∀ m, (∀ d, d < m → (G d).length = 24) → ∀ d q v, d < m → (G d)[q]? = some v → (news G m)[d * 24 + q]? = some v
  | 0, _, d, q, v, hd, _ => by omega
  | m + 1, h, d, q, v, hd, hv => by
    have hlen := news_length G m (fun d hd => h d (by omega))
    have hq : q < 24 := by have := (List.getElem?_eq_some_iff.1 hv).1; rw [h d hd] at this; exact this
    rw [news_succ]
    by_cases e : d = m
    · subst e
      rw [List.getElem?_append_right (by omega), hlen, show d * 24 + q - d * 24 = q by omega]
      exact hv
    · have := mul_fit (sz := 24) (show d < m by omega)
      rw [List.getElem?_append_left (by omega)]
      exact news_get G m (fun d hd => h d (by omega)) d q v (by omega) hv
theorem news_find (G : Nat → List Value) : ∀ m, (∀ d, d < m → (G d).length = 24) → ∀ j v, (news G m)[j]? = some v → ∃ d q, d < m ∧ j = d * 24 + q ∧ (G d)[q]? = some v
  | 0, _, j, v, h => by simp [news] at h
  | m + 1, h, j, v, hv => by
    have hlen := news_length G m (fun d hd => h d (by omega))
    rw [news_succ] at hv
    by_cases e : j < m * 24
    · rw [List.getElem?_append_left (by omega)] at hv
      obtain ⟨d, q, h1, h2, h3⟩ := news_find G m (fun d hd => h d (by omega)) j v hv
      exact ⟨d, q, by omega, h2, h3⟩
    · rw [List.getElem?_append_right (by omega), hlen] at hv
      exact ⟨m, j - m * 24, by omega, by omega, hv⟩

/-- list with element k taken out, in place. -/
theorem append_out {w : World} {b n k : Nat} {f : Nat → List UInt8} (hr : Row w b 24 n n (fun i => ctl (f i))) (hk : k < n) (hn : n ≤ 4096) :
    ∃ w', (Builtin.append_ #[26, 26] 26 #[.slice (some ⟨b, 0, none⟩) k n, .slice (some (tl b n k)) (n - (k + 1)) (n - (k + 1))]).run Try.prog w = .ok (.slice (some ⟨b, 0, none⟩) (n - 1) n) w' ∧
      Row w' b 24 n (n - 1) (fun i => ctl (if i < k then f i else f (i + 1))) ∧ w.grownBy w' (some b) := by
  obtain ⟨i, hi, hz0, hz1, hz2⟩ := info_parts (show (Try.prog.info? 40).map (fun i => (i.zero, i.size, i.bytes)) = some (some (ctv z20), 24, 56) by kernel_rfl)
  have hG : ∀ d, d < n - (k + 1) → (ctl (f (k + 1 + d))).length = 24 := fun d hd => (hr.2 (k + 1 + d) (by omega)).1
  have hlen := news_length (fun d => ctl (f (k + 1 + d))) (n - (k + 1)) hG
  have hcell : ∀ j u, (news (fun d => ctl (f (k + 1 + d))) (n - (k + 1)))[j]? = some u → w.cell? ((tl b n k).add j) = some u := by
    intro j u hu
    obtain ⟨d, q, h1, h2, h3⟩ := news_find _ _ hG j u hu
    have e : tl b n k = ⟨b, (k + 1) * 24, none⟩ := by
      unfold tl
      rw [if_neg (by omega), Addr.add_mid, Nat.zero_add]
    rw [e, Addr.add_mid, show (k + 1) * 24 + j = (k + 1 + d) * 24 + q by omega]
    exact (hr.2 (k + 1 + d) (by omega)).2 q u h3
  have h1c : ∀ u ∈ news (fun d => ctl (f (k + 1 + d))) (n - (k + 1)), u.oneCell' = true := by
    intro u hu
    obtain ⟨d, _, hd⟩ := List.mem_flatMap.1 hu
    exact one_ctl _ u hd
  have hth : ∀ j, j < (news (fun d => ctl (f (k + 1 + d))) (n - (k + 1))).length → (w.cell? ⟨b, 0 + k * 24 + j, none⟩).isSome = true ∧ w.frozen? ⟨b, 0 + k * 24 + j, none⟩ = false := by
    intro j hj
    have := hr.1 (k * 24 + j) (by omega)
    rw [show 0 + k * 24 + j = 0 + (k * 24 + j) by omega]
    exact this
  have hrun := run_append_room_cells (P := Try.prog) w 26 26 40 i Try.underlying26 hi b 0 k n (tl b n k) (n - (k + 1)) (n - (k + 1)) (news (fun d => ctl (f (k + 1 + d))) (n - (k + 1))) (by rw [hlen, hz1]) hcell h1c (by omega) (by rw [hz1]; exact fun j hj => (hth j hj).1) (by rw [hz1]; exact fun j hj => (hth j hj).2)
  rw [hz1, show k + (n - (k + 1)) = n - 1 by omega, Nat.zero_add] at hrun
  refine ⟨_, hrun, ⟨World.there_setCells hr.1 _ _ _, fun i hi => ?_⟩, ⟨?_, ?_, ?_, ?_, ?_⟩⟩
  · by_cases e : i < k
    · simp only [e, if_true]
      obtain ⟨g1, g2⟩ := hr.2 i (by omega)
      exact ⟨g1, World.rangeAt_setCells_apart g2 _ _ _ (.inr (.inl (by rw [g1]; exact mul_fit e)))⟩
    · simp only [e, if_false]
      obtain ⟨g1, g2⟩ := hr.2 (i + 1) (by omega)
      refine ⟨g1, fun j v hv => ?_⟩
      have hj : j < 24 := by have := (List.getElem?_eq_some_iff.1 hv).1; rw [g1] at this; exact this
      have hd : i - k < n - (k + 1) := by omega
      have hfit := mul_fit (sz := 24) hd
      have hget := news_get (fun d => ctl (f (k + 1 + d))) (n - (k + 1)) hG (i - k) j v hd (by show (ctl (f (k + 1 + (i - k))))[j]? = some v; rw [show k + 1 + (i - k) = i + 1 by omega]; exact hv)
      have hlt : (i - k) * 24 + j < (news (fun d => ctl (f (k + 1 + d))) (n - (k + 1))).length := by omega
      rw [show i * 24 + j = k * 24 + ((i - k) * 24 + j) by omega, World.cell?_setCells_in b _ (k * 24) w (fun q hq => by have := (hth q hq).1; rwa [Nat.zero_add] at this) _ hlt]
      rw [List.getElem?_eq_getElem hlt] at hget
      exact hget
  · exact (below_setCells (B := 0) b (Nat.zero_le _) _ _ w).os
  · exact (below_setCells (B := 0) b (Nat.zero_le _) _ _ w).tape
  · exact (below_setCells (B := 0) b (Nat.zero_le _) _ _ w).output
  · exact (below_setCells (B := 0) b (Nat.zero_le _) _ _ w).size
  · intro g hg hne
    exact heap_setCells b _ _ w g (fun e => hne (by rw [e]))
theorem gby_of {w w' : World} (h : Below w.heap.size w w') (r : Option Nat) : w.grownBy w' r := ⟨h.os, h.tape, h.output, h.size, fun i hi _ => h.block i hi⟩
theorem gby_tr {w w1 w2 : World} {r : Option Nat} (h : w.grownBy w1 r) (k : w1.grownBy w2 r) : w.grownBy w2 r :=
  ⟨k.os.trans h.os, k.tape.trans h.tape, k.output.trans h.output, Nat.le_trans h.size k.size, fun i hi hr => (k.block i (Nat.lt_of_lt_of_le hi h.size) hr).trans (h.block i hi hr)⟩

set_option maxHeartbeats 800000 in
theorem without18 (b n : Nat) (f : Nat → List UInt8) (p : List UInt8) (w : World) (hn : n ≤ 4096) (hp : p.length = 20) (hl : ∀ i, i < n → (f i).length = 20) (hd : ∀ i j, i < j → j < n → f i ≠ f j) (hr : Row w b 24 n n (fun i => ctl (f i))) (hb : b < w.heap.size) :
    Calls Try.prog 18 #[.slice (some ⟨b, 0, none⟩) n n, idv p] w fun e w' => ∃ m g, e = .returned (.tuple #[.slice (some ⟨b, 0, none⟩) m n, .bool (memF f n p)]) ∧ m ≤ n ∧ Row w' b 24 n m (fun i => ctl (g i)) ∧ (∀ i, i < m → (g i).length = 20) ∧ memF g m p = false ∧ w.grownBy w' (some b) := by
  have hB1 : Below w.heap.size w (w.alloc (.cells (idc p) 27)) := (Below.refl _ w).alloc (Nat.le_refl _) _
  have hr1 := hr.below hB1 hb
  have hx1 := Bx.new w (idc p) 27
  clear hr
  go_enter Try.func18, Try.ntmps18
  go_wp2_with fail
  generalize hw1 : w.alloc _ = w1 at hB1 hr1 hx1 ⊢
  clear hw1
  have HX : Hid (Bx w1 w.heap.size (idc p) 27) := hx1
  have HR : Hid (Row w1 b 24 n n (fun i => ctl (f i))) := hr1
  have HL : Hid (∀ i, i < n → (f i).length = 20) := hl
  have HD : Hid (∀ i j, i < j → j < n → f i ≠ f j) := hd
  have HB : Hid _ := hB1
  clear hx1 hr1 hl hB1 hd
  go_wp2_with fail
  go_loopw [10] (fun i wr => ∃ k : Nat, k ≤ n ∧ i = .int .i64 k ∧ Below w1.heap.size w1 wr ∧ Hid (∀ j, j < k → f j ≠ p)) (fun i _ => n - (intOf i).toNat)
  case atStart => exact ⟨0, Nat.zero_le _, rfl, Below.refl _ _, fun j hj => by omega⟩
  case round =>
    obtain ⟨k, hk, rfl, hb2, HN⟩ := hrel
    by_cases hlt : k < n
    · have hlk := HL.out k hlt
      have hs1 := Bx.lt HX.out
      have hld := (Row.below HR.out hb2 (Nat.lt_of_lt_of_le hb HB.out.size)).ldC hlt hlk
      obtain ⟨w3, hst, hl1, hl2, heq, hb3⟩ := round_var (w1 := w1) hlk hp (Bx.below HX.out hb2 hs1) w1.heap.size hb2.size
      have HLD : Hid _ := hld
      have HST : Hid _ := hst
      have HL1 : Hid _ := hl1
      have HL2 : Hid _ := hl2
      have HEQ : Hid _ := heq
      have HB3 : Hid (Below w1.heap.size w1 w3) := hb2.trans hb3
      clear hld hst hl1 hl2 heq hb3 hs1
      have HK : Hid ((f k == p) = false → ∀ j, j < k + 1 → f j ≠ p) := by
        intro hne j hj
        by_cases e : j = k
        · rw [e]; exact fun e' => by rw [e'] at hne; simp at hne
        · exact HN.out j (by omega)
      have HY : Hid ((f k == p) = true → f k = p) := fun he => by simpa using he
      generalize (f k == p) = bq at *
      cases bq
      · have HK2 : Hid (∀ j, j < k + 1 → f j ≠ p) := HK.out rfl
        clear HK HY
        go_wp2_with (first
          | (refine wpList_ld (by rfl) _ 40 (by rfl) _ _ (by rfl) HLD.out ?_)
          | (refine wpList_st (by rfl) _ _ 40 (by rfl) _ _ (by rfl) (by rfl) HST.out ?_)
          | (refine wpList_ld (by rfl) _ 27 (by rfl) _ _ (by rfl) HL1.out ?_)
          | (refine wpList_ld (by rfl) _ 27 (by rfl) _ _ (by rfl) HL2.out ?_)
          | (refine wpList_eq (by rfl) _ _ 27 27 (by rfl) _ _ _ (by rfl) (by rfl) guard27 HEQ.out ?_))
        go_roundw
        case rel => exact ⟨k + 1, by omega, by go_num, HB3.out, HK2⟩
        case measure => simp [intOf]; omega
      · have HY2 : Hid (f k = p) := HY.out rfl
        clear HK HY
        go_wp2_with (first
          | (refine wpList_ld (by rfl) _ 40 (by rfl) _ _ (by rfl) HLD.out ?_)
          | (refine wpList_st (by rfl) _ _ 40 (by rfl) _ _ (by rfl) (by rfl) HST.out ?_)
          | (refine wpList_ld (by rfl) _ 27 (by rfl) _ _ (by rfl) HL1.out ?_)
          | (refine wpList_ld (by rfl) _ 27 (by rfl) _ _ (by rfl) HL2.out ?_)
          | (refine wpList_eq (by rfl) _ _ 27 27 (by rfl) _ _ _ (by rfl) (by rfl) guard27 HEQ.out ?_))
        refine region_tail 7 mixed (by kernel_rfl) (fun w5 ha => ?_)
        have hr5 : Row w5 b 24 n n (fun i => ctl (f i)) := (Row.below HR.out HB3.out (Nat.lt_of_lt_of_le hb HB.out.size)).kept (by rw [ha.1])
        obtain ⟨w6, hap, hr6, hg6⟩ := append_out hr5 hlt hn
        have HS2 : Hid _ := slice2 b n k hlt hn w5
        have HAP : Hid _ := hap
        have HG6 : Hid (w.grownBy w6 (some b)) := gby_tr (gby_of (HB.out.trans ((HB3.out.trans (ha.below _)).mono HB.out.size)) (some b)) hg6
        have HR6 : Hid (Row w6 b 24 n (n - 1) (fun i => ctl (if i < k then f i else f (i + 1)))) := hr6
        clear hr5 hap hr6 hg6 ha
        simp only [List.take_succ_cons, List.take_zero, List.drop_succ_cons, List.drop_zero]
        still_step
        still_step
        still_step
        still_step
        still_step
        still_step
        refine wpStill_step (fun K hK => still_slice (by rfl) _ _ 26 (by rfl) _ _ _ (by rfl) (by rfl) HS2.out (hK _ ?_))
        refine wpStill_nil ?_
        refine wpList_ap (by rfl) _ _ 26 (by rfl) _ _ _ (by rfl) (by rfl) HAP.out ?_
        go_wp2
        go_ret2
        have hy : memF f n p = true := memF_yes hlt HY2.out
        refine ⟨n - 1, fun i => if i < k then f i else f (i + 1), by rw [hy]; rfl, by omega, HR6.out, ?_, memF_no ?_, HG6.out⟩
        · intro i hi
          show (if i < k then f i else f (i + 1)).length = 20
          split
          · exact HL.out i (by omega)
          · exact HL.out (i + 1) (by omega)
        · intro i hi
          show (if i < k then f i else f (i + 1)) ≠ p
          split
          · rename_i e; exact HN.out i e
          · rename_i e
            rw [← HY2.out]
            exact (HD.out k (i + 1) (by omega) (by omega)).symm
    · have hno : memF f n p = false := memF_no (fun i hi => HN.out i (by omega))
      have HNO : Hid _ := hno
      clear hno
      go_wp2
      go_ret2
      exact ⟨n, f, by rw [HNO.out]; rfl, Nat.le_refl _, Row.below HR.out hb2 (Nat.lt_of_lt_of_le hb HB.out.size), HL.out, HNO.out, gby_of (HB.out.trans (hb2.mono HB.out.size)) _⟩

set_option maxHeartbeats 400000 in
theorem zzwithout (b n : Nat) (f : Nat → List UInt8) (p : List UInt8) (w : World) (hn : n ≤ 4096) (hp : p.length = 20) (hl : ∀ i, i < n → (f i).length = 20) (hd : ∀ i j, i < j → j < n → f i ≠ f j) (hr : Row w b 24 n n (fun i => ctl (f i))) (hb : b < w.heap.size) :
    Calls Try.prog 10 #[.slice (some ⟨b, 0, none⟩) n n, idv p] w fun e w' => ∃ m g, e = .returned (.tuple #[.slice (some ⟨b, 0, none⟩) m n, .bool (memF f n p)]) ∧ m ≤ n ∧ Row w' b 24 n m (fun i => ctl (g i)) ∧ (∀ i, i < m → (g i).length = 20) ∧ memF g m p = false ∧ w.grownBy w' (some b) := by
  have hB1 : Below w.heap.size w (w.alloc (.cells (idc p) 27)) := (Below.refl _ w).alloc (Nat.le_refl _) _
  have HR : Hid _ := hr.below hB1 hb
  have HL : Hid (∀ i, i < n → (f i).length = 20) := hl
  have HD : Hid (∀ i j, i < j → j < n → f i ≠ f j) := hd
  have HX : Hid _ := (Bx.new w (idc p) 27).id hp 27 Try.underlying27 size27
  have HB : Hid _ := hB1
  clear hr hl hB1 hd
  go_enter Try.func10, Try.ntmps10
  go_wp2_with (refine wpList_ld (by rfl) _ 27 (by rfl) _ _ (by rfl) HX.out ?_)
  refine (without18 b n f p _ hn hp HL.out HD.out HR.out (Nat.lt_of_lt_of_le hb HB.out.size)).mono ?_
  rintro e w' ⟨m, g, rfl, h1, h2, h3, h4, h5⟩
  have H2 : Hid _ := h2
  have H3 : Hid _ := h3
  have H4 : Hid _ := h4
  have H5 : Hid (w.grownBy w' (some b)) := gby_tr (gby_of HB.out _) h5
  clear h2 h3 h4 h5
  go_wp2
  go_ret2
  exact ⟨m, g, rfl, h1, H2.out, H3.out, H4.out, H5.out⟩
end Go.Proofs.Qxb6603638a
