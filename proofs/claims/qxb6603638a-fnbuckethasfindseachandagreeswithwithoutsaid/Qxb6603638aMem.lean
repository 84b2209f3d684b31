/- WORK: Peer-IDs and contacts in memory; loads, stores, builds and equalities of many cells. -/
import Derived.Test.Qxb6603638aProg
import Derived.WalkKit
import Derived.WalkSpells
import Derived.WalkLawsBesides
import Derived.BigQuiet
import Derived.Below
import Derived.StillTailTactics
import Derived.Stop.BytesEq
import Derived.Deep.MidRow
import Derived.ArgAppend
import Derived.Laws.MakeOwn
import Derived.OwnWalk
set_option linter.unusedVariables false
namespace Go.Proofs.Qxb6603638a
open Go.RowKit
open Extern.Stop (cell)

/-- A Peer-ID's cells; a contact's, at the zero address. -/
def idl (l : List UInt8) : List Value := l.map cell
def ctl (l : List UInt8) : List Value := idl l ++ [.int .u64 0, .int .u64 0, .pointer none, .int .u16 0]
def idc (l : List UInt8) : Array Value := (idl l).toArray
def ctc (l : List UInt8) : Array Value := (ctl l).toArray
abbrev idv (l : List UInt8) : Value := .agg (idc l)
abbrev ctv (l : List UInt8) : Value := .agg (ctc l)
theorem idl_length (l : List UInt8) : (idl l).length = l.length := by simp [idl]
theorem ctl_length (l : List UInt8) : (ctl l).length = l.length + 4 := by simp [ctl, idl]
theorem idc_size (l : List UInt8) : (idc l).size = l.length := by simp [idc, idl]
theorem ctc_size (l : List UInt8) : (ctc l).size = l.length + 4 := by simp [ctc, ctl, idl]
theorem one_idl (l : List UInt8) : ∀ v ∈ idl l, v.oneCell' = true := by
  intro v hv
  obtain ⟨x, _, rfl⟩ := List.mem_map.1 hv
  rfl
theorem one_ctl (l : List UInt8) : ∀ v ∈ ctl l, v.oneCell' = true := by
  intro v hv
  rcases List.mem_append.1 hv with h | h
  · exact one_idl l v h
  · simp at h
    rcases h with rfl | rfl | rfl | rfl <;> rfl
theorem size23 : (Try.prog.info? 23).map (·.size) = some 20 := by kernel_rfl
theorem size27 : (Try.prog.info? 27).map (·.size) = some 20 := by kernel_rfl
theorem size40 : (Try.prog.info? 40).map (·.size) = some 24 := by kernel_rfl

theorem build40 (l : List UInt8) (h : l.length = 20) (w : World) : (Instr.build 40 #[(0, idv l)]).run Try.prog w = .ok (ctv l) w := by
  match l, h with
  | [b0, b1, b2, b3, b4, b5, b6, b7, b8, b9, b10, b11, b12, b13, b14, b15, b16, b17, b18, b19], _ =>
    exact run_build w 40 _ _ (by kernel_rfl)
theorem eq_id (t : TypeId) (ht : Try.prog.underlying t = some (.array 20 5)) (a b : List UInt8) (ha : a.length = 20) (hb : b.length = 20) (w : World) : (binOp .eql t (idv a) (idv b)).run Try.prog w = .ok (.bool (a == b)) w :=
  run_eql_bytes w t 5 20 ht Try.underlying5 Try.sizeOf5 a b ha hb
theorem guard23 : Try.prog.eqGuardType Try.prog.depth 23 = false := by kernel_rfl
theorem guard27 : Try.prog.eqGuardType Try.prog.depth 27 = false := by kernel_rfl

/-! Steps of the walk. -/
section
variable {P : Program} {w w' : World} {ops : Array Oper} {rest : List Oper} {o : Oper} {a : Act} {Q : Exit → Act → World → Prop}
theorem wpList_ld (hg : o.guard = none) (x : Operand) (t : TypeId) (ho : o.op = .load t x) (p v : Value) (hx : a.eval x = p)
    (hr : (Instr.loadAt t p).run P w = .ok v w) (h : wpList P ops Q rest (a.put o.dst v) w) : wpList P ops Q (o :: rest) a w := by
  refine wpList_plain hg fun K' hK' => ?_
  unfold Oper.wp execOp
  simp only [ho, hx, Sem.run_bind, Sem.run_pure, hr, Result.andThen_ok]
  exact hK' _ _ h
theorem wpList_st (hg : o.guard = none) (x y : Operand) (t : TypeId) (ho : o.op = .store t x y) (p v : Value) (hx : a.eval x = p) (hy : a.eval y = v)
    (hr : (Instr.storeAt t p v).run P w = .ok () w') (h : wpList P ops Q rest (a.put o.dst undef) w') : wpList P ops Q (o :: rest) a w := by
  refine wpList_plain hg fun K' hK' => ?_
  unfold Oper.wp execOp
  simp only [ho, hx, hy, Sem.run_bind, Sem.run_pure, hr, Result.andThen_ok]
  exact hK' _ _ h
theorem wpList_eq (hg : o.guard = none) (x y : Operand) (t t' : TypeId) (ho : o.op = .binOp .eql t x y t') (p q : Array Value) (v : Value) (hx : a.eval x = .agg p) (hy : a.eval y = .agg q) (hm : P.eqGuardType P.depth t = false)
    (hr : (binOp .eql t (.agg p) (.agg q)).run P w = .ok v w) (h : wpList P ops Q rest (a.put o.dst v) w) : wpList P ops Q (o :: rest) a w := by
  refine wpList_plain hg fun K' hK' => ?_
  unfold Oper.wp execOp
  simp only [ho, hx, hy, Sem.run_bind, Sem.run_pure, run_eqGuard_agg w .eql t x y p q hm, hr, Result.andThen_ok]
  exact hK' _ _ h
theorem wpList_bd (hg : o.guard = none) (x : Operand) (t : TypeId) (i : Nat) (ho : o.op = .build t #[(i, x)]) (p v : Value) (hx : a.eval x = p)
    (hr : (Instr.build t #[(i, p)]).run P w = .ok v w) (h : wpList P ops Q rest (a.put o.dst v) w) : wpList P ops Q (o :: rest) a w := by
  refine wpList_plain hg fun K' hK' => ?_
  unfold Oper.wp execOp
  simp only [ho, hx, Sem.run_bind, Sem.run_pure, List.map_toArray, List.map_cons, List.map_nil, hr, Result.andThen_ok]
  exact hK' _ _ h
theorem still_load {K : Act → Prop} (hgd : o.guard = none) (x : Operand) (t : TypeId) (ho : o.op = .load t x) (p v : Value) (hx : a.eval x = p)
    (hr : (Instr.loadAt t p).run P w = .ok v w) (h : K (a.put o.dst v)) : if Region.wanted o (yielded ops a.tmps) then o.still P a w K else K (a.put o.dst undef) := by
  have hw : Region.wanted o (yielded ops a.tmps) = true := by simp [Region.wanted, hgd]
  rw [if_pos hw]
  unfold Oper.still execOp
  simp only [ho, hx, Sem.run_bind, Sem.run_pure, hr, Result.andThen_ok]
  exact ⟨rfl, h⟩
theorem still_eq {K : Act → Prop} (hgd : o.guard = none) (x y : Operand) (t t' : TypeId) (ho : o.op = .binOp .eql t x y t') (p q : Array Value) (v : Value) (hx : a.eval x = .agg p) (hy : a.eval y = .agg q) (hm : P.eqGuardType P.depth t = false)
    (hr : (binOp .eql t (.agg p) (.agg q)).run P w = .ok v w) (h : K (a.put o.dst v)) : if Region.wanted o (yielded ops a.tmps) then o.still P a w K else K (a.put o.dst undef) := by
  have hw : Region.wanted o (yielded ops a.tmps) = true := by simp [Region.wanted, hgd]
  rw [if_pos hw]
  unfold Oper.still execOp
  simp only [ho, hx, hy, Sem.run_bind, Sem.run_pure, run_eqGuard_agg w .eql t x y p q hm, hr, Result.andThen_ok]
  exact ⟨rfl, h⟩
end
/-- w' is w but for how many draws were made. -/
def Alk (w w' : World) : Prop := w'.heap = w.heap ∧ w'.os = w.os ∧ w'.tape = w.tape ∧ w'.output = w.output
theorem region_tail {P : Program} {id : Nat} {Q : Exit → Act → World → Prop} {a : Act} {w : World} {l : List Oper} (n : Nat) (hm : P.follows .mixedOrders = true) (hB : Region.lexTailB .any l.toArray n = true)
    (h : ∀ w3, Alk w w3 → wpStill P l.toArray w3 (fun a' => wpList P l.toArray Q (l.drop n) a' w3) (l.take n) a) : (Code.region id l.toArray true).wp P Q a w :=
  wp_region_still_tail n hm hB (h _ ⟨rfl, rfl, rfl, rfl⟩)
theorem mixed : Try.prog.follows .mixedOrders = true := by kernel_rfl
theorem Alk.below {w w' : World} (B : Nat) (h : Alk w w') : Below B w w' := ⟨h.2.1, h.2.2.1, h.2.2.2, by rw [h.1]; exact Nat.le_refl _, fun k _ => by rw [h.1]⟩
theorem Alk.cell {w w' : World} (h : Alk w w') (p : Addr) : w'.cell? p = w.cell? p := World.cell?_of_block (w := w) (by rw [h.1])
theorem Alk.frozen {w w' : World} (h : Alk w w') (p : Addr) : w'.frozen? p = w.frozen? p := World.frozen?_of_block (w := w) (by rw [h.1])

/-- Cells at an address, whichever. -/
def At (w : World) (x : Addr) (cs : List Value) : Prop := ∀ j v, cs[j]? = some v → w.cell? (x.add j) = some v
theorem At.load {P : Program} {w : World} {x : Addr} {cs : List Value} (h : At w x cs) (ty : TypeId) (d : TypeDesc) (hu : P.underlying ty = some d) (hd : d.isRow = true) (hi : (P.info? ty).map (·.size) = some cs.length) :
    (Instr.loadAt ty (.pointer (some x))).run P w = .ok (.agg cs.toArray) w := by
  have hl : (loadCells x cs.length).run P w = .ok cs.toArray w := run_loadCells_list (P := P) w x cs h
  cases hq : P.info? ty with
  | none => simp [hq] at hi
  | some i =>
    have hs : i.size = cs.length := by simpa [hq] using hi
    have hagg : (isAgg ty).run P w = .ok true w := by
      unfold isAgg
      rw [Sem.run_bind, run_underlying hu w]
      cases d <;> simp_all
    simp [Instr.loadAt, Instr.sureAddr, loadVar, Sem.run_bind, hagg, sizeOf, typeInfo, hq, hs, hl]
theorem add_block (x : Addr) (k : Nat) : (x.add k).block = x.block := by unfold Addr.add; split <;> rfl
theorem At.below {w w' : World} {B : Nat} {x : Addr} {cs : List Value} (h : At w x cs) (hb : Below B w w') (hx : x.block < B) : At w' x cs := fun j v hv => (hb.cell (by rw [add_block]; exact hx)).trans (h j v hv)
theorem At.alk {w w' : World} {x : Addr} {cs : List Value} (h : At w x cs) (hb : Alk w w') : At w' x cs := fun j v hv => (hb.cell _).trans (h j v hv)
theorem at_mid {w : World} {b o : Nat} {cs : List Value} (h : w.rangeAt b o cs) : At w ⟨b, o, none⟩ cs := fun j v hv => by rw [Addr.add_mid]; exact h j v hv

/-- A variable in a block of its own. -/
def Bx (w : World) (g : Nat) (cs : Array Value) (t : TypeId) : Prop := w.heap[g]? = some (.cells cs t (0, 0))
theorem Bx.lt {w : World} {g : Nat} {cs : Array Value} {t : TypeId} (h : Bx w g cs t) : g < w.heap.size := (Array.getElem?_eq_some_iff.1 h).1
theorem Bx.new (w : World) (cs : Array Value) (t : TypeId) : Bx (w.alloc (.cells cs t)) w.heap.size cs t := by
  show (w.heap.push _)[w.heap.size]? = some _
  simp
theorem Bx.frozen {w : World} {g : Nat} {cs : Array Value} {t : TypeId} (h : Bx w g cs t) (i : Nat) : w.frozen? ⟨g, i, none⟩ = false := by
  unfold Bx at h
  simp [World.frozen?, h]
theorem Bx.below {w w' : World} {B g : Nat} {cs : Array Value} {t : TypeId} (h : Bx w g cs t) (hb : Below B w w') (hg : g < B) : Bx w' g cs t := (hb.block g hg).trans h
theorem Bx.range {w : World} {g : Nat} {cs : Array Value} {t : TypeId} (h : Bx w g cs t) : w.rangeAt g 0 cs.toList := fun j v hv => by
  rw [cell_of_row w g (0 + j) cs t (0, 0) h, Nat.zero_add]
  simpa using hv
theorem Bx.id {w : World} {g : Nat} {l : List UInt8} {t : TypeId} (h : Bx w g (idc l) t) (hl : l.length = 20) (ty : TypeId) (hu : Try.prog.underlying ty = some (.array 20 5)) (hs : (Try.prog.info? ty).map (·.size) = some 20) :
    (Instr.loadAt ty (.pointer (some ⟨g, 0, none⟩))).run Try.prog w = .ok (idv l) w :=
  (at_mid (cs := idl l) (by simpa [idc] using h.range)).load ty _ hu rfl (by rw [hs, idl_length, hl])
theorem Bx.cid {w : World} {g : Nat} {l : List UInt8} {t : TypeId} (h : Bx w g (ctc l) t) (hl : l.length = 20) : (Instr.loadAt 27 (.pointer (some ⟨g, 0, none⟩))).run Try.prog w = .ok (idv l) w := by
  refine (at_mid (cs := idl l) ?_).load 27 _ Try.underlying27 rfl (by rw [size27, idl_length, hl])
  intro j v hv
  refine h.range j v ?_
  simp only [ctc, List.toList_toArray, ctl]
  rw [List.getElem?_append_left (List.getElem?_eq_some_iff.1 hv).1]
  exact hv
theorem Bx.store {w : World} {g : Nat} {cs : Array Value} {t : TypeId} (h : Bx w g cs t) (hc : cs.size = 24) (l : List UInt8) (hl : l.length = 20) :
    (Instr.storeAt 40 (.pointer (some ⟨g, 0, none⟩)) (ctv l)).run Try.prog w = .ok () (w.setRow g (ctc l)) := by
  have := run_storeVar_row (P := Try.prog) w g t 40 cs (ctc l) h (by rw [size40, ctc_size, hl]) (by rw [hc, ctc_size, hl]) (all_oneCell_toArray (one_ctl l))
  simp only [Instr.storeAt, Instr.sureAddr, Sem.run_bind, Sem.run_pure, Result.andThen]
  exact this
theorem Bx.set {w : World} {g : Nat} {cs ds : Array Value} {t : TypeId} (h : Bx w g cs t) : Bx (w.setRow g ds) g ds t := setRow_heap w g _ _ t _ h

/-- A row of n elements of sz cells each at block b, the first k of them told. -/
def Row (w : World) (b sz n k : Nat) (F : Nat → List Value) : Prop := w.there b 0 (n * sz) ∧ ∀ i, i < k → (F i).length = sz ∧ w.rangeAt b (i * sz) (F i)
theorem mul_fit {i n sz : Nat} (h : i < n) : i * sz + sz ≤ n * sz := by
  have := Nat.mul_le_mul_right sz (Nat.succ_le_of_lt h)
  rwa [Nat.succ_mul] at this
theorem Row.there {w : World} {b sz n k : Nat} {F : Nat → List Value} (h : Row w b sz n k F) {i : Nat} (hi : i < n) : w.there b (i * sz) sz := fun j hj => by
  have := h.1 (i * sz + j) (by have := mul_fit (sz := sz) hi; omega)
  simpa using this
theorem there_kept {w w' : World} {b o n : Nat} (h : w.there b o n) (hb : w'.heap[b]? = w.heap[b]?) : w'.there b o n := fun j hj => by
  obtain ⟨h1, h2⟩ := h j hj
  exact ⟨by rw [World.cell?_of_block (w := w) (w' := w') (a := ⟨b, o + j, none⟩) hb]; exact h1, by rw [World.frozen?_of_block (w := w) (w' := w') (a := ⟨b, o + j, none⟩) hb]; exact h2⟩
theorem range_kept {w w' : World} {b o : Nat} {cs : List Value} (h : w.rangeAt b o cs) (hb : w'.heap[b]? = w.heap[b]?) : w'.rangeAt b o cs := fun j v hv => by
  rw [World.cell?_of_block (w := w) (w' := w') (a := ⟨b, o + j, none⟩) hb]; exact h j v hv
theorem Row.kept {w w' : World} {b sz n k : Nat} {F : Nat → List Value} (h : Row w b sz n k F) (hb : w'.heap[b]? = w.heap[b]?) : Row w' b sz n k F :=
  ⟨there_kept h.1 hb, fun i hi => ⟨(h.2 i hi).1, range_kept (h.2 i hi).2 hb⟩⟩
theorem Row.below {w w' : World} {B b sz n k : Nat} {F : Nat → List Value} (h : Row w b sz n k F) (hb : Below B w w') (hB : b < B) : Row w' b sz n k F := h.kept (hb.block b hB)
theorem Row.made (w : World) (z : Array Value) (e : TypeId) (sz n : Nat) (F : Nat → List Value) : Row (w.alloc (.cells (madeCells z (n * sz)) e)) w.heap.size sz n 0 F := by
  have hb := Bx.new w (madeCells z (n * sz)) e
  refine ⟨fun j hj => ⟨?_, ?_⟩, fun i hi => by omega⟩
  · rw [cell_of_row _ _ (0 + j) _ e (0, 0) hb, Array.getElem?_eq_getElem (by rw [size_madeCells]; omega)]
    rfl
  · exact hb.frozen _
theorem Row.store {w : World} {b sz n k : Nat} {F : Nat → List Value} (h : Row w b sz n k F) (hk : k < n) (hF : (F k).length = sz) : Row (w.setCells b (k * sz) (F k)) b sz n (k + 1) F := by
  refine ⟨World.there_setCells h.1 _ _ _, fun i hi => ?_⟩
  by_cases e : i = k
  · subst e
    exact ⟨hF, World.rangeAt_setCells_same w b _ _ (by rw [hF]; exact h.there hk)⟩
  · have hik : i < k := by omega
    obtain ⟨h1, h2⟩ := h.2 i hik
    exact ⟨h1, World.rangeAt_setCells_apart h2 _ _ _ (.inr (.inl (by rw [h1]; exact mul_fit hik)))⟩
theorem Row.at {w : World} {b sz n k : Nat} {F : Nat → List Value} (h : Row w b sz n k F) {i : Nat} (hi : i < k) : At w ⟨b, i * sz, none⟩ (F i) := at_mid (h.2 i hi).2
theorem heap_setCells (b : Nat) : ∀ (vs : List Value) (o : Nat) (w : World) (g : Nat), g ≠ b → (w.setCells b o vs).heap[g]? = w.heap[g]?
  | [], _, _, _, _ => rfl
  | v :: r, o, w, g, h => by
    rw [World.setCells, heap_setCells b r (o + 1) _ g h]
    exact Below.heap_setCell w ⟨b, o, none⟩ v g h
theorem below_setCells {B : Nat} (b : Nat) (hB : B ≤ b) : ∀ (vs : List Value) (o : Nat) (w : World), Below B w (w.setCells b o vs)
  | [], _, w => Below.refl B w
  | v :: r, o, w => by
    rw [World.setCells]
    exact ((Below.refl B w).setCell (p := ⟨b, o, none⟩) hB v).trans (below_setCells b hB r (o + 1) _)
theorem below_row {B g : Nat} {a w : World} (h : Below B a w) (hB : B ≤ g) (cs : Array Value) : Below B a (w.setRow g cs) :=
  h.trans ⟨rfl, rfl, rfl, by simp [World.setRow], fun k hk => setRow_other w g k _ (by omega)⟩
/-- A row of Peer-IDs that came in. -/
def RdI (w : World) (x : Addr) (n : Nat) (f : Nat → List UInt8) : Prop := ∀ i, i < n → (f i).length = 20 ∧ At w (x.add (i * 20)) (idl (f i))
def Own (w : World) (a : Option Addr) (n : Nat) (f : Nat → List UInt8) : Prop := n = 0 ∨ ∃ x, a = some x ∧ x.block < w.heap.size ∧ RdI w x n f
theorem Own.below {w w' : World} {a : Option Addr} {n : Nat} {f : Nat → List UInt8} (h : Own w a n f) (hb : Below w.heap.size w w') : Own w' a n f := by
  rcases h with h | ⟨x, rfl, hx, hc⟩
  · exact .inl h
  · exact .inr ⟨x, rfl, Nat.lt_of_lt_of_le hx hb.size, fun i hi => ⟨(hc i hi).1, (hc i hi).2.below hb (by rw [add_block]; exact hx)⟩⟩
end Go.Proofs.Qxb6603638a
