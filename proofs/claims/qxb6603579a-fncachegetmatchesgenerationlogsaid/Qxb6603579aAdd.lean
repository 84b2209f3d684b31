/- WORK: (*verifiedCache).add. -/
import Derived.Test.Qxb6603579aMem
import Derived.StringKeys
import Derived.StillTailTactics
namespace Go.Proofs.Qxb6603579a
open Go.RowKit Go.Maps
open Go.MuLone
set_option linter.unusedVariables false
open Go.WideShapes Go.ChangeMaps Go.WideMaps

theorem makeMap_hint (w : World) (z : Int) : (Instr.makeMap 55 (some (.int .i64 z))).run Try.prog w = .ok (.map (some w.heap.size)) (w.alloc (.map #[] 0)) := by
  have h := Try.runUnderlying55 w
  simp [Instr.makeMap, asInt, asIntOf, h, Result.andThen]

theorem load40 {w : World} {g : Nat} {name : ByteArray} (hg : w.heap[g]? = some (.cells (match vf name with | .agg ds => ds | _ => #[]) 40 (0, 0))) : (Instr.loadAt 40 (.pointer (some ⟨g, 0, none⟩))).run Try.prog w = .ok (vf name) w := by
  have h := run_loadVar_row (P := Try.prog) w g 40 40 _ (0, 0) _ hg Try.underlying40 rfl (by kernel_rfl)
  simp only [Instr.loadAt, Instr.sureAddr, Sem.run_bind, Sem.run_pure, Result.andThen]
  exact h
theorem heap_new (w : World) (o : Obj) : (w.alloc o).heap[w.heap.size]? = some o := by
  show (w.heap.push o)[w.heap.size]? = some o
  simp

/-- A load at a step of the still head of a region that draws its order. -/
theorem still_load {P : Program} {w : World} {ops : Array Oper} {o : Oper} {a : Act} {K : Act → Prop} (hgd : o.guard = none) (x : Operand) (t : TypeId) (ho : o.op = .load t x) (p v : Value) (hx : a.eval x = p)
    (hr : (Instr.loadAt t p).run P w = .ok v w) (h : K (a.put o.dst v)) : if Region.wanted o (yielded ops a.tmps) then o.still P a w K else K (a.put o.dst undef) := by
  have hw : Region.wanted o (yielded ops a.tmps) = true := by simp [Region.wanted, hgd]
  rw [if_pos hw]
  unfold Oper.still execOp
  simp only [ho, hx, Sem.run_bind, Sem.run_pure, hr, Result.andThen_ok]
  exact ⟨rfl, h⟩

/-- w' is w but for how many draws were made. -/
def Alk (w w' : World) : Prop := w'.heap = w.heap ∧ w'.os = w.os ∧ w'.tape = w.tape ∧ w'.output = w.output
theorem gby_alk {w w1 w2 : World} {r : Option Nat} (h : Alk w w1) (g : w1.grownBy w2 r) : w.grownBy w2 r :=
  ⟨g.os.trans h.2.1, g.tape.trans h.2.2.1, g.output.trans h.2.2.2, by have := g.size; rw [h.1] at this; exact this, fun i hi hr => by rw [g.block i (by rw [h.1]; exact hi) hr, h.1]⟩
theorem own_alk {w w1 : World} {nb n : Nat} {D : DataW Unit} (h : Alk w w1) (o : w.ownsMap Try.prog 9 velem nb n D) : w1.ownsMap Try.prog 9 velem nb n D := by
  obtain ⟨es, clock, hb, r⟩ := o
  exact ⟨es, clock, by rw [h.1]; exact hb, r⟩
theorem CS.ne {w : World} {C nb n : Nat} {s sz : Int} {nv ov : Value} {D : DataW Unit} (h : CS w C s sz nv ov) (o : w.ownsMap Try.prog 9 velem nb n D) : C ≠ nb := by
  intro e
  subst e
  obtain ⟨es, clock, hb, _⟩ := o
  unfold CS at h
  rw [h] at hb
  cases hb

theorem wpList_upd {P : Program} {w w' : World} {ops : Array Oper} {rest : List Oper} {o : Oper} {a : Act} {Q : Exit → Act → World → Prop} (hg : o.guard = none) (m x y : Operand) (t : TypeId) (ho : o.op = .mapUpdate t m x y) (mv xv yv : Value) (hm : a.eval m = mv) (hx : a.eval x = xv) (hy : a.eval y = yv)
    (hr : (Instr.mapUpdate t mv xv yv).run P w = .ok () w') (h : wpList P ops Q rest (a.put o.dst undef) w') : wpList P ops Q (o :: rest) a w := by
  refine wpList_plain hg fun K' hK' => ?_
  unfold Oper.wp
  simp [execOp, ho, hm, hx, hy, hr, Result.andThen]
  exact hK' _ _ h
theorem region_tail {P : Program} {id : Nat} {Q : Exit → Act → World → Prop} {a : Act} {w : World} {l : List Oper} (n : Nat) (hm : P.follows .mixedOrders = true) (hB : Region.lexTailB .any l.toArray n = true)
    (h : ∀ w3, Alk w w3 → wpStill P l.toArray w3 (fun a' => wpList P l.toArray Q (l.drop n) a' w3) (l.take n) a) : (Code.region id l.toArray true).wp P Q a w :=
  wp_region_still_tail n hm hB (h _ ⟨rfl, rfl, rfl, rfl⟩)
theorem Alk.trans {a b c : World} (h : Alk a b) (k : Alk b c) : Alk a c := ⟨k.1.trans h.1, k.2.1.trans h.2.1, k.2.2.1.trans h.2.2.1, k.2.2.2.trans h.2.2.2⟩
theorem CS.alk {w w' : World} {C : Nat} {s sz : Int} {nv ov : Value} (h : CS w C s sz nv ov) (ha : Alk w w') : CS w' C s sz nv ov := h.kept (by rw [ha.1])
theorem mixed : Try.prog.follows .mixedOrders = true := by kernel_rfl

/-- The store into the newer map, in whatever world that is w1 but for the draws. -/
theorem put_store {w1 : World} {C nb n : Nat} {s sz : Int} {ov : Value} {D : DataW Unit} (tok name : ByteArray) (hcs : CS w1 C s sz (.map (some nb)) ov) (hown : w1.ownsMap Try.prog 9 velem nb n D) (hn : n < maxLen) (ht : tok.size ≤ maxLen) (w' : World) (ha : Alk w1 w') :
    ∃ w2, (Instr.mapUpdate 55 (.map (some nb)) (.string tok) (vf name)).run Try.prog w' = .ok () w2 ∧ CS w2 C s sz (.map (some nb)) ov ∧ w2.ownsMap Try.prog 9 velem nb (n + 1) (D.put (.string tok.data.toList) (.lit (.string name.data.toList))) ∧ w1.grownBy w2 (some nb) := by
  have hcs' : CS w' C s sz (.map (some nb)) ov := hcs.kept (by rw [ha.1])
  obtain ⟨w2, hup, hown2, hturn⟩ := (own_alk ha hown).store law9 Try.underlying55 hn (keyOf_string_mk Try.underlying9 ht) (velem_mk name)
  exact ⟨w2, hup, hcs'.kept (hturn.grown.block C hcs'.lt (fun e => hcs.ne hown (Option.some.inj e))), hown2, gby_alk ha hturn.grown⟩

set_option maxHeartbeats 1600000 in
theorem add_keep (C nb n z : Nat) (s : Int) (ov : Value) (D : DataW Unit) (tok name : ByteArray) (w : World) (hcs : CS w C s z (.map (some nb)) ov) (hown : w.ownsMap Try.prog 9 velem nb n D) (hn : n < maxLen) (hz : z ≤ 65536) (ht : tok.size ≤ maxLen) (hD : Maps.size D < z / 2) :
    Calls Try.prog 21 #[.pointer (some ⟨C, 0, none⟩), .string tok, vf name] w fun e w' => e = .returned (.tuple #[]) ∧ CS w' C s z (.map (some nb)) ov ∧ w'.ownsMap Try.prog 9 velem nb (n + 1) (D.put (.string tok.data.toList) (.lit (.string name.data.toList))) ∧ w.grownBy w' (some nb) := by
  have hown1 := hown.alloc (.cells (match vf name with | .agg ds => ds | _ => #[]) 40)
  have hcs1 : CS (w.alloc (.cells (match vf name with | .agg ds => ds | _ => #[]) 40)) C s z (.map (some nb)) ov := hcs.kept (Below.heap_alloc _ _ _ hcs.lt)
  have hg1 := World.grownBy_alloc w (.cells (match vf name with | .agg ds => ds | _ => #[]) 40) (some nb)
  have hb := heap_new w (.cells (match vf name with | .agg ds => ds | _ => #[]) 40)
  go_enter Try.func21, Try.ntmps21
  go_wp2
  generalize hw1 : w.alloc _ = w1 at hown1 hcs1 hg1 hb ⊢
  clear hw1 hcs hown
  have e2 := hcs1.c2
  have e3 := hcs1.c3
  have hlen : ∀ m, (Builtin.len_ #[55] 3 #[.map (some nb)]).run Try.prog (w1.drewN m) = .ok (.int .i64 (Maps.size D)) (w1.drewN m) := fun m => (show (w1.drewN m).ownsMap Try.prog 9 velem nb n D from hown1).len Try.underlying55 3
  have HG : Hid (w.grownBy w1 (some nb)) := hg1
  have HL : Hid (∀ w', Alk w1 w' → (Instr.loadAt 40 (.pointer (some ⟨w.heap.size, 0, none⟩))).run Try.prog w' = .ok (vf name) w') := fun w' ha => load40 (by rw [ha.1]; exact hb)
  have HU : Hid _ := put_store tok name hcs1 hown1 hn ht
  have HC : Hid (CS w1 C s z (.map (some nb)) ov) := hcs1
  clear hg1 hb hcs1 hown1 hn
  go_quiet (fail)
  go_wp2
  clear hlen
  refine region_tail 6 mixed (by kernel_rfl) (fun w3 ha0 => ?_)
  have ha : Alk w1 w3 := Alk.trans ⟨rfl, rfl, rfl, rfl⟩ ha0
  have e3' := (HC.out.alk ha).c3
  obtain ⟨w4, hup, hq1, hq2, hq3⟩ := HU.out w3 ha
  have HQ : Hid (CS w4 C s z (.map (some nb)) ov ∧ w4.ownsMap Try.prog 9 velem nb (n + 1) (D.put (.string tok.data.toList) (.lit (.string name.data.toList))) ∧ w.grownBy w4 (some nb)) := ⟨hq1, hq2, HG.out.trans hq3⟩
  clear hq1 hq2 hq3 HU HG HC e2 e3
  simp only [List.take_succ_cons, List.take_zero, List.drop_succ_cons, List.drop_zero]
  still_step
  still_step
  still_step
  still_step
  still_step
  refine wpStill_step (fun K hK => still_load (by rfl) _ 40 (by rfl) _ _ (by rfl) (HL.out _ ha) (hK _ ?_))
  refine wpStill_nil ?_
  refine wpList_upd (by rfl) _ _ _ 55 (by rfl) _ _ _ (by rfl) (by rfl) (by rfl) hup ?_
  go_wp2
  go_end0
  exact ⟨rfl, HQ.out⟩
theorem gby_set (w : World) (C i : Nat) (v : Value) : w.grownBy (w.setCell ⟨C, i, none⟩ v) (some C) :=
  ⟨rfl, rfl, rfl, by simp, fun j _ hj => Below.heap_setCell _ _ _ _ (fun e => hj (by rw [e]))⟩
theorem gby_alc (w : World) (o : Obj) (r : Option Nat) : w.grownBy (w.alloc o) r := World.grownBy_alloc w o r
/-- What the world is behind the turn. -/
def Turned (w1 w5 : World) (C nb : Nat) (s z : Int) : Prop :=
  CS w5 C s z (.map (some w1.heap.size)) (.map (some nb)) ∧ w5.ownsMap Try.prog 9 velem w1.heap.size 0 (.map []) ∧ w1.grownBy w5 (some C)
theorem turned_a {w1 wA : World} {C nb : Nat} {s z : Int} {nv ov : Value} (h : CS w1 C s z nv ov) (ha : Alk w1 wA) : Turned w1 (((wA.setCell ⟨C, 4, none⟩ (.map (some nb))).alloc (.map #[] 0)).setCell ⟨C, 3, none⟩ (.map (some w1.heap.size))) C nb s z := by
  have hA := (h.alk ha).set4 (.map (some nb))
  have hs : (wA.setCell ⟨C, 4, none⟩ (.map (some nb))).heap.size = w1.heap.size := by simp [ha.1]
  have ho := World.ownsMap_made (wA.setCell ⟨C, 4, none⟩ (.map (some nb))) Try.prog 9 velem
  rw [hs] at ho
  refine ⟨(CS.kept hA (Below.heap_alloc _ _ _ hA.lt)).set3 _, ho.setCell (a := ⟨C, 3, none⟩) (by have := h.lt; show _ ≠ C; omega) _, ?_⟩
  exact gby_alk ha ((gby_set _ _ _ _).trans ((gby_alc _ _ _).trans (gby_set _ _ _ _)))
theorem turned_b {w1 wA : World} {C nb : Nat} {s z : Int} {nv ov : Value} (h : CS w1 C s z nv ov) (ha : Alk w1 wA) : Turned w1 (((wA.alloc (.map #[] 0)).setCell ⟨C, 4, none⟩ (.map (some nb))).setCell ⟨C, 3, none⟩ (.map (some w1.heap.size))) C nb s z := by
  have hA := h.alk ha
  have hs : wA.heap.size = w1.heap.size := by rw [ha.1]
  have ho := World.ownsMap_made wA Try.prog 9 velem
  rw [hs] at ho
  have hne : w1.heap.size ≠ C := by have := h.lt; omega
  refine ⟨((CS.kept hA (Below.heap_alloc _ _ _ hA.lt)).set4 _).set3 _, (ho.setCell (a := ⟨C, 4, none⟩) hne _).setCell (a := ⟨C, 3, none⟩) hne _, ?_⟩
  exact gby_alk ha ((gby_alc _ _ _).trans ((gby_set _ _ _ _).trans (gby_set _ _ _ _)))

/-- Blocks that are new to w may turn at will. -/
theorem gby_up {w w1 w2 : World} {r : Option Nat} {k : Nat} (h : w.grownBy w1 r) (g : w1.grownBy w2 (some k)) (hk : w.heap.size ≤ k) : w.grownBy w2 r :=
  ⟨g.os.trans h.os, g.tape.trans h.tape, g.output.trans h.output, Nat.le_trans h.size g.size, fun i hi hr => (g.block i (Nat.lt_of_lt_of_le hi h.size) (fun e => by have := Option.some.inj e; omega)).trans (h.block i hi hr)⟩

set_option maxHeartbeats 1600000 in
theorem add_turn (C nb n z : Nat) (s : Int) (ov : Value) (D : DataW Unit) (tok name : ByteArray) (w : World) (hcs : CS w C s z (.map (some nb)) ov) (hown : w.ownsMap Try.prog 9 velem nb n D) (hn : n < maxLen) (hz : z ≤ 65536) (ht : tok.size ≤ maxLen) (hD : z / 2 ≤ Maps.size D) :
    Calls Try.prog 21 #[.pointer (some ⟨C, 0, none⟩), .string tok, vf name] w fun e w' => e = .returned (.tuple #[]) ∧ ∃ nb', w.heap.size ≤ nb' ∧ CS w' C s z (.map (some nb')) (.map (some nb)) ∧ w'.ownsMap Try.prog 9 velem nb' 1 (DataW.put (.map []) (.string tok.data.toList) (.lit (.string name.data.toList))) ∧ w.grownBy w' (some C) := by
  have hCN : w.heap.size ≠ C := by have := hcs.lt; omega
  have hown1 := hown.alloc (.cells (match vf name with | .agg ds => ds | _ => #[]) 40)
  have hcs1 : CS (w.alloc (.cells (match vf name with | .agg ds => ds | _ => #[]) 40)) C s z (.map (some nb)) ov := hcs.kept (Below.heap_alloc _ _ _ hcs.lt)
  have hg1 := World.grownBy_alloc w (.cells (match vf name with | .agg ds => ds | _ => #[]) 40) (some C)
  have hb := heap_new w (.cells (match vf name with | .agg ds => ds | _ => #[]) 40)
  go_enter Try.func21, Try.ntmps21
  go_wp2
  generalize hw1 : w.alloc _ = w1 at hown1 hcs1 hg1 hb ⊢
  clear hw1 hcs hown
  have e2 := hcs1.c2
  have e3 := hcs1.c3
  have e4 := hcs1.c4
  have f3 := hcs1.fz 3
  have f4 := hcs1.fz 4
  have hlen : ∀ m, (Builtin.len_ #[55] 3 #[.map (some nb)]).run Try.prog (w1.drewN m) = .ok (.int .i64 (Maps.size D)) (w1.drewN m) := fun m => (show (w1.drewN m).ownsMap Try.prog 9 velem nb n D from hown1).len Try.underlying55 3
  have HG : Hid (w.grownBy w1 (some C)) := hg1
  have HN : Hid (w.heap.size < w1.heap.size) := (Array.getElem?_eq_some_iff.1 hb).1
  have HB : Hid _ := hb
  have HCN : Hid (w.heap.size ≠ C) := hCN
  have HL : Hid (∀ w', Alk w1 w' → (Instr.loadAt 40 (.pointer (some ⟨w.heap.size, 0, none⟩))).run Try.prog w' = .ok (vf name) w') := fun w' ha => load40 (by rw [ha.1]; exact hb)
  have HC : Hid (CS w1 C s z (.map (some nb)) ov) := hcs1
  clear hg1 hb hcs1 hown1 hn
  go_quiet (fail)
  go_wp2
  clear hlen
  have hmm := makeMap_hint
  have hA : ∀ m, CS ((w1.drewN m).alloc (.map #[] 0)) C s z (.map (some nb)) ov := fun m => CS.kept (w := w1.drewN m) (HC.out.alk ⟨rfl, rfl, rfl, rfl⟩) (Below.heap_alloc (w1.drewN m) _ _ HC.out.lt)
  have a2 := fun m => (hA m).c2
  have a3 := fun m => (hA m).c3
  have a4 := fun m => (hA m).c4
  have b3 := fun m => (hA m).fz 3
  have b4 := fun m => (hA m).fz 4
  have hA4 : ∀ m, CS (((w1.drewN m).setCell ⟨C, 4, none⟩ (.map (some nb))).alloc (.map #[] 0)) C s z (.map (some nb)) (.map (some nb)) := fun m => CS.kept (CS.set4 (w := w1.drewN m) (HC.out.alk ⟨rfl, rfl, rfl, rfl⟩) _) (Below.heap_alloc _ _ _ (by simpa using HC.out.lt))
  have hA3 : ∀ m, CS (((w1.drewN m).setCell ⟨C, 3, none⟩ (.map (some w1.heap.size))).alloc (.map #[] 0)) C s z (.map (some w1.heap.size)) ov := fun m => CS.kept (CS.set3 (w := w1.drewN m) (HC.out.alk ⟨rfl, rfl, rfl, rfl⟩) _) (Below.heap_alloc _ _ _ (by simpa using HC.out.lt))
  have a43 := fun m => (hA4 m).c3
  have a34 := fun m => (hA3 m).c4
  have b43 := fun m => (hA4 m).fz 3
  have b34 := fun m => (hA3 m).fz 4
  clear hA hA3 hA4
  go_region
  · have F := turned_a (nb := nb) HC.out (show Alk w1 (w1.drewN (nq + 1)) from ⟨rfl, rfl, rfl, rfl⟩)
    clear hmm b3 b4 b43 b34 e2 e3 e4 f3 f4
    generalize World.setCell _ ⟨C, 3, none⟩ _ = w5 at F ⊢
    obtain ⟨F1, F2, F3⟩ := F
    have HL5 : Hid (∀ w', Alk w5 w' → (Instr.loadAt 40 (.pointer (some ⟨w.heap.size, 0, none⟩))).run Try.prog w' = .ok (vf name) w') := fun w' ha => load40 (by rw [ha.1, F3.block w.heap.size HN.out (fun e => HCN.out (Option.some.inj e))]; exact HB.out)
    have HU : Hid _ := put_store tok name F1 F2 (by decide) ht
    have HG5 : Hid (w.grownBy w5 (some C)) := HG.out.trans F3
    have HC5 : Hid (CS w5 C s z (.map (some w1.heap.size)) (.map (some nb))) := F1
    clear F1 F2 F3
    go_wp2
    refine region_tail 6 mixed (by kernel_rfl) (fun w3 ha => ?_)
    have e3' := (HC5.out.alk ha).c3
    obtain ⟨w4, hup, hq1, hq2, hq3⟩ := HU.out w3 ha
    have HQ : Hid (∃ nb', w.heap.size ≤ nb' ∧ CS w4 C s z (.map (some nb')) (.map (some nb)) ∧ w4.ownsMap Try.prog 9 velem nb' 1 (DataW.put (.map []) (.string tok.data.toList) (.lit (.string name.data.toList))) ∧ w.grownBy w4 (some C)) :=
      ⟨w1.heap.size, Nat.le_of_lt HN.out, hq1, hq2, gby_up HG5.out hq3 (Nat.le_of_lt HN.out)⟩
    clear hq1 hq2 hq3 HU HG5 HC5
    simp only [List.take_succ_cons, List.take_zero, List.drop_succ_cons, List.drop_zero]
    still_step
    still_step
    still_step
    still_step
    still_step
    refine wpStill_step (fun K hK => still_load (by rfl) _ 40 (by rfl) _ _ (by rfl) (HL5.out _ ha) (hK _ ?_))
    refine wpStill_nil ?_
    refine wpList_upd (by rfl) _ _ _ 55 (by rfl) _ _ _ (by rfl) (by rfl) (by rfl) hup ?_
    go_wp2
    go_end0
    exact ⟨rfl, HQ.out⟩
  · have F := turned_b (nb := nb) HC.out (show Alk w1 (w1.drewN (nq + 1)) from ⟨rfl, rfl, rfl, rfl⟩)
    clear hmm b3 b4 b43 b34 e2 e3 e4 f3 f4
    generalize World.setCell _ ⟨C, 3, none⟩ _ = w5 at F ⊢
    obtain ⟨F1, F2, F3⟩ := F
    have HL5 : Hid (∀ w', Alk w5 w' → (Instr.loadAt 40 (.pointer (some ⟨w.heap.size, 0, none⟩))).run Try.prog w' = .ok (vf name) w') := fun w' ha => load40 (by rw [ha.1, F3.block w.heap.size HN.out (fun e => HCN.out (Option.some.inj e))]; exact HB.out)
    have HU : Hid _ := put_store tok name F1 F2 (by decide) ht
    have HG5 : Hid (w.grownBy w5 (some C)) := HG.out.trans F3
    have HC5 : Hid (CS w5 C s z (.map (some w1.heap.size)) (.map (some nb))) := F1
    clear F1 F2 F3
    go_wp2
    refine region_tail 6 mixed (by kernel_rfl) (fun w3 ha => ?_)
    have e3' := (HC5.out.alk ha).c3
    obtain ⟨w4, hup, hq1, hq2, hq3⟩ := HU.out w3 ha
    have HQ : Hid (∃ nb', w.heap.size ≤ nb' ∧ CS w4 C s z (.map (some nb')) (.map (some nb)) ∧ w4.ownsMap Try.prog 9 velem nb' 1 (DataW.put (.map []) (.string tok.data.toList) (.lit (.string name.data.toList))) ∧ w.grownBy w4 (some C)) :=
      ⟨w1.heap.size, Nat.le_of_lt HN.out, hq1, hq2, gby_up HG5.out hq3 (Nat.le_of_lt HN.out)⟩
    clear hq1 hq2 hq3 HU HG5 HC5
    simp only [List.take_succ_cons, List.take_zero, List.drop_succ_cons, List.drop_zero]
    still_step
    still_step
    still_step
    still_step
    still_step
    refine wpStill_step (fun K hK => still_load (by rfl) _ 40 (by rfl) _ _ (by rfl) (HL5.out _ ha) (hK _ ?_))
    refine wpStill_nil ?_
    refine wpList_upd (by rfl) _ _ _ 55 (by rfl) _ _ _ (by rfl) (by rfl) (by rfl) hup ?_
    go_wp2
    go_end0
    exact ⟨rfl, HQ.out⟩
end Go.Proofs.Qxb6603579a
