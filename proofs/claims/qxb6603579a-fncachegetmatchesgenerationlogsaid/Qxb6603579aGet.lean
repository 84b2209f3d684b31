/- WORK: get; newVerifiedCache; the three doors of the export file. -/
import Derived.Test.Qxb6603579aPut
import Derived.Laws.CopyOwn
namespace Go.Proofs.Qxb6603579a
open Go.RowKit Go.Maps
open Go.MuLone
open Go.WideShapes Go.ChangeMaps Go.WideMaps
set_option linter.unusedVariables false

/-- The cells of a Verified that holds a name alone. -/
abbrev vc (s : ByteArray) : Array Value := match vf s with | .agg ds => ds | _ => #[]
/-- A variable of that type. -/
def Box (w : World) (g : Nat) (s : ByteArray) : Prop := w.heap[g]? = some (.cells (vc s) 40 (0, 0))
theorem Box.lt {w : World} {g : Nat} {s : ByteArray} (h : Box w g s) : g < w.heap.size := (Array.getElem?_eq_some_iff.1 h).1
theorem Box.load {w : World} {g : Nat} {s : ByteArray} (h : Box w g s) : (Instr.loadAt 40 (.pointer (some ⟨g, 0, none⟩))).run Try.prog w = .ok (vf s) w := load40 h
theorem Box.store {w : World} {g : Nat} {s : ByteArray} (h : Box w g s) (t : ByteArray) : (Instr.storeAt 40 (.pointer (some ⟨g, 0, none⟩)) (vf t)).run Try.prog w = .ok () (w.setRow g (vc t)) := by
  have := run_storeVar_row (P := Try.prog) w g 40 40 (vc s) (vc t) h (by kernel_rfl) rfl (by simp [Value.oneCell'])
  simp only [Instr.storeAt, Instr.sureAddr, Sem.run_bind, Sem.run_pure, Result.andThen]
  exact this
theorem Box.set {w : World} {g : Nat} {s : ByteArray} (h : Box w g s) (t : ByteArray) : Box (w.setRow g (vc t)) g t := setRow_heap w g _ _ 40 _ h
theorem Box.new (w : World) (s : ByteArray) : Box (w.alloc (.cells (vc s) 40)) w.heap.size s := heap_new w _

theorem wpList_st {P : Program} {w w' : World} {ops : Array Oper} {rest : List Oper} {o : Oper} {a : Act} {Q : Exit → Act → World → Prop} (hg : o.guard = none) (x y : Operand) (t : TypeId) (ho : o.op = .store t x y) (p v : Value) (hx : a.eval x = p) (hy : a.eval y = v)
    (hr : (Instr.storeAt t p v).run P w = .ok () w') (h : wpList P ops Q rest (a.put o.dst undef) w') : wpList P ops Q (o :: rest) a w := by
  refine wpList_plain hg fun K' hK' => ?_
  unfold Oper.wp execOp
  simp only [ho, hx, hy, Sem.run_bind, Sem.run_pure, hr, Result.andThen_ok]
  exact hK' _ _ h
theorem wpList_lk {P : Program} {w : World} {ops : Array Oper} {rest : List Oper} {o : Oper} {a : Act} {Q : Exit → Act → World → Prop} (hg : o.guard = none) (x y : Operand) (t : TypeId) (ho : o.op = .lookup t x y true) (m k v : Value) (hx : a.eval x = m) (hy : a.eval y = k)
    (hr : (Instr.lookup t m k true).run P w = .ok v w) (h : wpList P ops Q rest (a.put o.dst v) w) : wpList P ops Q (o :: rest) a w := by
  refine wpList_plain hg fun K' hK' => ?_
  unfold Oper.wp execOp
  simp only [ho, hx, hy, Sem.run_bind, Sem.run_pure, hr, Result.andThen_ok]
  exact hK' _ _ h
theorem results_ct {fn : Func} {p t : Tmp} (h : fn.results = #[.cell p 40, .tmp t]) (tmps : Array Value) (w : World) (g : Nat) (s : ByteArray) (hp : tmps.getD p undef = .pointer (some ⟨g, 0, none⟩)) (hg : Box w g s) :
    (results fn tmps).run Try.prog w = .ok (.tuple #[vf s, tmps.getD t undef]) w := by
  have hp' : tmps[p]?.getD undef = .pointer (some ⟨g, 0, none⟩) := by simpa using hp
  simp [results, h, hp', asAddr, run_loadVar_row w g 40 40 (vc s) (0, 0) _ hg Try.underlying40 rfl (by kernel_rfl)]

theorem Cache.row {w w' : World} {B C z g : Nat} {s : Int} {t : ByteArray} {Dn Do : DataW Unit} (h : Cache w B C s z Dn Do) (hg : Box w g t) (hw : ∀ i, i ≠ g → w'.heap[i]? = w.heap[i]?) : Cache w' B C s z Dn Do := by
  obtain ⟨nb, ov, h1, h2, h3, h4, h5⟩ := h
  have n1 : C ≠ g := by
    rintro rfl
    unfold CS at h1
    unfold Box at hg
    rw [h1] at hg
    injection hg with hg
    injection hg with _ hg _
    exact absurd hg (by decide)
  have n2 : ∀ b n D, w.ownsMap Try.prog 9 velem b n D → w'.ownsMap Try.prog 9 velem b n D := by
    rintro b n D ⟨es, clock, hb, r⟩
    refine ⟨es, clock, ?_, r⟩
    rw [hw b (by rintro rfl; unfold Box at hg; rw [hb] at hg; cases hg)]
    exact hb
  refine ⟨nb, ov, h1.kept (hw C n1), n2 _ _ _ h2, ?_, h4, h5⟩
  rcases h3 with h3 | ⟨ob, e1, e2, e3, e4⟩
  · exact .inl h3
  · exact .inr ⟨ob, e1, e2, e3, n2 _ _ _ e4⟩
theorem Cache.setRow {w : World} {B C z g : Nat} {s : Int} {t : ByteArray} {Dn Do : DataW Unit} (h : Cache w B C s z Dn Do) (hg : Box w g t) (u : ByteArray) : Cache (w.setRow g (vc u)) B C s z Dn Do :=
  h.row hg (fun i hi => setRow_other w g i _ hi)

theorem dl_inj {s t : ByteArray} (h : dl s = dl t) : s = t := by
  injection h with h
  injection h with h
  cases s; cases t
  simpa using h

/-- A look-up in the newer map, in the older one. -/
theorem new_look {w : World} {nb n : Nat} {D : DataW Unit} (tok : ByteArray) (ht : tok.size ≤ maxLen) (h : w.ownsMap Try.prog 9 velem nb n D) : ∃ s, (Instr.lookup 55 (.map (some nb)) (.string tok) true).run Try.prog w = .ok (.tuple #[vf s, .bool (Maps.has D (kl tok))]) w ∧ D.atKey (kl tok) (dl (ByteArray.mk #[])) = dl s := by
  obtain ⟨v, ps, hr, hv⟩ := h.look_ok law9 Try.underlying55 (zero40 w) (velem_mk (ByteArray.mk #[])) (keyOf_string_mk Try.underlying9 ht)
  obtain ⟨s, rfl, hd⟩ := velem_inv hv
  exact ⟨s, hr, hd⟩
theorem old_look {w : World} {B nb : Nat} {ov : Value} {D : DataW Unit} (tok : ByteArray) (ht : tok.size ≤ maxLen) (h : Old w B nb ov D) : ∃ s, (Instr.lookup 55 ov (.string tok) true).run Try.prog w = .ok (.tuple #[vf s, .bool (Maps.has D (kl tok))]) w ∧ D.atKey (kl tok) (dl (ByteArray.mk #[])) = dl s := by
  rcases h with ⟨rfl, rfl⟩ | ⟨ob, rfl, _, _, h⟩
  · exact ⟨(ByteArray.mk #[]), Maps.look_nil true law9 Try.underlying55 (zero40 w) (keyOf_string_mk Try.underlying9 ht), rfl⟩
  · exact new_look tok ht h

theorem K_row {w : World} {n g : Nat} (h : n ≤ g) (cs : Array Value) : K n w (w.setRow g cs) := fun i ds t fz hi _ hw => (setRow_other w g i _ (by omega)).trans hw

theorem fresh_store {w : World} {B C z N : Nat} {s : Int} {t : ByteArray} {Dn Do : DataW Unit} (hc : Cache w B C s z Dn Do) (hx : Box w N t) (u : ByteArray) :
    ∃ w3, (Instr.storeAt 40 (.pointer (some ⟨w.heap.size, 0, none⟩)) (vf u)).run Try.prog (w.alloc (.cells (vc (ByteArray.mk #[])) 40)) = .ok () w3 ∧ Cache w3 B C s z Dn Do ∧ Below B w w3 ∧ Box w3 N t ∧ Box w3 w.heap.size u ∧ ∀ n, n ≤ w.heap.size → K n w w3 := by
  have hn := Box.new w (ByteArray.mk #[])
  have hle := hc.le
  refine ⟨_, hn.store u, (hc.alloc _).setRow hn u, below_setRow ((Below.refl B w).alloc (by omega) _) (by omega) _, ?_, hn.set u, fun n h => (K_alloc n w _).trans (K_row h _)⟩
  show (World.setRow _ _ _).heap[N]? = _
  rw [setRow_other _ _ _ _ (Nat.ne_of_lt hx.lt)]
  exact (Below.heap_alloc _ _ _ hx.lt).trans hx
theorem box_store {w : World} {B C z N : Nat} {s : Int} {t : ByteArray} {Dn Do : DataW Unit} (hc : Cache w B C s z Dn Do) (hx : Box w N t) (hN : B ≤ N) (u : ByteArray) :
    ∃ w3, (Instr.storeAt 40 (.pointer (some ⟨N, 0, none⟩)) (vf u)).run Try.prog w = .ok () w3 ∧ Cache w3 B C s z Dn Do ∧ Below B w w3 ∧ Box w3 N u ∧ ∀ n, n ≤ N → K n w w3 :=
  ⟨_, hx.store u, hc.setRow hx u, below_setRow (Below.refl B w) hN _, hx.set u, fun n h => K_row h _⟩
theorem Box.below {w w' : World} {B N : Nat} {t : ByteArray} (hx : Box w N t) (hb : Below B w w') (hN : N < B) : Box w' N t := (hb.block N hN).trans hx

/-- What get answers, and what it does to the two maps. -/
def GetRel (z : Nat) (Dn Do : DataW Unit) (tok s : ByteArray) (b : Bool) (Dn' Do' : DataW Unit) : Prop :=
  (Maps.has Dn (kl tok) = true ∧ Dn.atKey (kl tok) (dl (ByteArray.mk #[])) = dl s ∧ b = true ∧ Dn' = Dn ∧ Do' = Do) ∨
  (Maps.has Dn (kl tok) = false ∧ Maps.has Do (kl tok) = true ∧ Do.atKey (kl tok) (dl (ByteArray.mk #[])) = dl s ∧ b = true ∧ Dn' = stepN z Dn tok s ∧ Do' = stepO z Dn Do) ∨
  (Maps.has Dn (kl tok) = false ∧ Maps.has Do (kl tok) = false ∧ s = (ByteArray.mk #[]) ∧ b = false ∧ Dn' = Dn ∧ Do' = Do)

set_option maxHeartbeats 1600000 in
theorem get_new {w : World} {B C z : Nat} {Dn Do : DataW Unit} (tok : ByteArray) (hc : Cache w B C 0 z Dn Do) (ht : tok.size ≤ maxLen) (hh : Maps.has Dn (kl tok) = true) :
    Calls Try.prog 16 #[.pointer (some ⟨C, 0, none⟩), .string tok] w fun e w' => ∃ s b Dn' Do', e = .returned (.tuple #[vf s, .bool b]) ∧ Cache w' B C 0 z Dn' Do' ∧ Below B w w' ∧ GetRel z Dn Do tok s b Dn' Do' ∧ K w.heap.size w w' := by
  have hc1 := hc.alloc (.cells (vc (ByteArray.mk #[])) 40)
  have hle := hc.le
  have hb1 : Below B w (w.alloc (.cells (vc (ByteArray.mk #[])) 40)) := (Below.refl B w).alloc (by omega) _
  have hx := Box.new w (ByteArray.mk #[])
  have hk1 := K_alloc w.heap.size w (.cells (vc (ByteArray.mk #[])) 40)
  go_enter_defers Try.func16, Try.ntmps16
  go_wp2_with fail
  generalize hw1 : w.alloc _ = w1 at hc1 hb1 hx hk1 ⊢
  clear hw1
  refine (lock_free Try.muLib ⟨C, 0, none⟩ _ hc1.c0 hc1.f0).mono ?_
  rintro e w2 ⟨rfl, hw2⟩
  have hc2 := hc1.setS 1
  have hb2 := hb1.setCell (p := ⟨C, 0, none⟩) hle.1 (.int .i32 1)
  have hx2 : Box (w1.setCell ⟨C, 0, none⟩ (.int .i32 1)) w.heap.size (ByteArray.mk #[]) := (Below.heap_setCell w1 ⟨C, 0, none⟩ _ w.heap.size (show w.heap.size ≠ C by omega)).trans hx
  have hk2 := hk1.trans (K_set hc1 w.heap.size (.int .i32 1))
  rw [← hw2] at hc2 hb2 hx2 hk2
  have hsz : w.heap.size ≤ w2.heap.size := Nat.le_of_lt hx2.lt
  clear hw2 hc1 hb1 hx hc hk1
  obtain ⟨nb, ov, k1, k2, k3, k4, k5⟩ := id hc2
  have e3 := k1.c3
  obtain ⟨s, hl, hd⟩ := new_look tok ht k2
  rw [hh] at hl
  obtain ⟨w3, hs3, hc3, hb3, hx3, hy3, kk3⟩ := fresh_store hc2 hx2 s
  obtain ⟨w4, hs4, hc4, hb4, hx4, kk4⟩ := box_store hc3 hx3 (by omega) s
  have HL1 : Hid _ := hl
  have HS3 : Hid _ := hs3
  have HS4 : Hid _ := hs4
  have HY : Hid _ := hy3.load
  have HC : Hid (Cache w4 B C 1 z Dn Do) := hc4
  have HX : Hid (Box w4 w.heap.size s) := hx4
  have HB : Hid (Below B w w4) := hb2.trans (hb3.trans hb4)
  have HK : Hid (K w.heap.size w w4) := hk2.trans ((kk3 _ hsz).trans (kk4 _ (Nat.le_refl _)))
  have HD : Hid (Dn.atKey (kl tok) (dl (ByteArray.mk #[])) = dl s) := hd
  have HH : Hid (Maps.has Dn (kl tok) = true) := hh
  clear hk2 kk3 kk4 hsz hl hs3 hs4 hc3 hc4 hb3 hb4 hx3 hx4 hy3 hc2 hb2 hx2 k1 k2 k3 k4 k5 hd hh
  go_wp2_with (first
    | (refine wpList_lk (by rfl) _ _ 55 (by rfl) _ _ _ (by rfl) (by rfl) HL1.out ?_)
    | (refine wpList_st (by rfl) _ _ 40 (by rfl) _ _ (by rfl) (by rfl) HS3.out ?_)
    | (refine wpList_ld (by rfl) _ 40 (by rfl) _ _ (by rfl) HY.out ?_)
    | (refine wpList_st (by rfl) _ _ 40 (by rfl) _ _ (by rfl) (by rfl) HS4.out ?_))
  refine leaves_cons (f := 20) (args := #[.pointer (some ⟨C, 0, none⟩)]) (by simp) (by simp [go_sem]) ?_
  refine (unlock_deferred Try.muLib ⟨C, 0, none⟩ .returning _ (Cache.c0 HC.out) (Cache.f0 HC.out)).mono ?_
  rintro e u' w'' ⟨rfl, rfl, rfl⟩
  refine ⟨_, results_ct rfl _ _ w.heap.size _ rfl ((Below.heap_setCell _ ⟨C, 0, none⟩ _ w.heap.size (show w.heap.size ≠ C by omega)).trans HX.out), ?_⟩
  exact ⟨s, true, Dn, Do, rfl, Cache.setS HC.out 0, HB.out.setCell (p := ⟨C, 0, none⟩) hle.1 _, .inl ⟨HH.out, HD.out, rfl, rfl, rfl⟩, HK.out.trans (K_set HC.out _ _)⟩

set_option maxHeartbeats 1600000 in
theorem get_old {w : World} {B C z : Nat} {Dn Do : DataW Unit} (tok : ByteArray) (hc : Cache w B C 0 z Dn Do) (ht : tok.size ≤ maxLen) (hn : Maps.size Dn < maxLen) (hz : z ≤ 65536) (hh : Maps.has Dn (kl tok) = false) (ho : Maps.has Do (kl tok) = true) :
    Calls Try.prog 16 #[.pointer (some ⟨C, 0, none⟩), .string tok] w fun e w' => ∃ s b Dn' Do', e = .returned (.tuple #[vf s, .bool b]) ∧ Cache w' B C 0 z Dn' Do' ∧ Below B w w' ∧ GetRel z Dn Do tok s b Dn' Do' ∧ K w.heap.size w w' := by
  have hc1 := hc.alloc (.cells (vc (ByteArray.mk #[])) 40)
  have hle := hc.le
  have hb1 : Below B w (w.alloc (.cells (vc (ByteArray.mk #[])) 40)) := (Below.refl B w).alloc (by omega) _
  have hx := Box.new w (ByteArray.mk #[])
  have hk1 := K_alloc w.heap.size w (.cells (vc (ByteArray.mk #[])) 40)
  go_enter_defers Try.func16, Try.ntmps16
  go_wp2_with fail
  generalize hw1 : w.alloc _ = w1 at hc1 hb1 hx hk1 ⊢
  clear hw1
  refine (lock_free Try.muLib ⟨C, 0, none⟩ _ hc1.c0 hc1.f0).mono ?_
  rintro e w2 ⟨rfl, hw2⟩
  have hc2 := hc1.setS 1
  have hb2 := hb1.setCell (p := ⟨C, 0, none⟩) hle.1 (.int .i32 1)
  have hx2 : Box (w1.setCell ⟨C, 0, none⟩ (.int .i32 1)) w.heap.size (ByteArray.mk #[]) := (Below.heap_setCell w1 ⟨C, 0, none⟩ _ w.heap.size (show w.heap.size ≠ C by omega)).trans hx
  have hk2 := hk1.trans (K_set hc1 w.heap.size (.int .i32 1))
  rw [← hw2] at hc2 hb2 hx2 hk2
  have hsz : w.heap.size ≤ w2.heap.size := Nat.le_of_lt hx2.lt
  clear hw2 hc1 hb1 hx hc hk1
  obtain ⟨nb, ov, k1, k2, k3, k4, k5⟩ := id hc2
  have e3 := k1.c3
  obtain ⟨s, hl, hd⟩ := new_look tok ht k2
  rw [hh] at hl
  obtain ⟨w3, hs3, hc3, hb3, hx3, hy3, kk3⟩ := fresh_store hc2 hx2 s
  obtain ⟨nb3, ov3, m1, m2, m3, m4, m5⟩ := id hc3
  have e4 := m1.c4
  obtain ⟨u, hl3, hd3⟩ := old_look tok ht m3
  rw [ho] at hl3
  obtain ⟨w4, hs4, hc4, hb4, hx4, hy4, kk4⟩ := fresh_store hc3 hx3 u
  have HL1 : Hid _ := hl
  have HL3 : Hid _ := hl3
  have HS3 : Hid _ := hs3
  have HS4 : Hid _ := hs4
  have HY : Hid _ := hy4.load
  have HY4 : Hid (Box w4 w3.heap.size u) := hy4
  have HC4 : Hid (Cache w4 B C 1 z Dn Do) := hc4
  have HX4 : Hid (Box w4 w.heap.size (ByteArray.mk #[])) := hx4
  have HB4 : Hid (Below B w w4) := hb2.trans (hb3.trans hb4)
  have HK4 : Hid (K w.heap.size w w4) := hk2.trans ((kk3 _ hsz).trans (kk4 _ (Nat.le_of_lt hx3.lt)))
  have HD : Hid (Do.atKey (kl tok) (dl (ByteArray.mk #[])) = dl u) := hd3
  have HH : Hid (Maps.has Dn (kl tok) = false) := hh
  have HO : Hid (Maps.has Do (kl tok) = true) := ho
  clear hk2 kk3 kk4 hsz hl hl3 hs3 hs4 hc3 hc4 hb3 hb4 hx3 hx4 hy3 hy4 hc2 hb2 hx2 k1 k2 k3 k4 k5 m1 m2 m3 m4 m5 hd hd3 hh ho
  go_wp2_with (first
    | (refine wpList_lk (by rfl) _ _ 55 (by rfl) _ _ _ (by rfl) (by rfl) HL1.out ?_)
    | (refine wpList_lk (by rfl) _ _ 55 (by rfl) _ _ _ (by rfl) (by rfl) HL3.out ?_)
    | (refine wpList_st (by rfl) _ _ 40 (by rfl) _ _ (by rfl) (by rfl) HS3.out ?_)
    | (refine wpList_st (by rfl) _ _ 40 (by rfl) _ _ (by rfl) (by rfl) HS4.out ?_)
    | (refine wpList_ld (by rfl) _ 40 (by rfl) _ _ (by rfl) HY.out ?_))
  refine (add_any tok u HC4.out hn hz ht).mono ?_
  rintro e w5 ⟨rfl, hc5, hb5, hk5⟩
  have hx5 : Box w5 w.heap.size (ByteArray.mk #[]) := hk5 _ _ _ _ _ (Box.lt HX4.out) (by decide) HX4.out
  have hy5 : Box w5 w3.heap.size u := hk5 _ _ _ _ _ (Box.lt HY4.out) (by decide) HY4.out
  obtain ⟨w6, hs6, hc6, hb6, hx6, kk6⟩ := box_store hc5 hx5 (by omega) u
  have HY5 : Hid _ := hy5.load
  have HS6 : Hid _ := hs6
  have HC : Hid (Cache w6 B C 1 z (stepN z Dn tok u) (stepO z Dn Do)) := hc6
  have HX : Hid (Box w6 w.heap.size u) := hx6
  have HB : Hid (Below B w w6) := HB4.out.trans (hb5.trans hb6)
  have HK : Hid (K w.heap.size w w6) := HK4.out.trans (K.trans (hk5 _) (kk6 _ (Nat.le_refl _)))
  clear kk6 hk5 hc5 hb5 hx5 hy5 hs6 hc6 hb6 hx6
  go_wp2_with (first
    | (refine wpList_ld (by rfl) _ 40 (by rfl) _ _ (by rfl) HY5.out ?_)
    | (refine wpList_st (by rfl) _ _ 40 (by rfl) _ _ (by rfl) (by rfl) HS6.out ?_))
  refine leaves_cons (f := 20) (args := #[.pointer (some ⟨C, 0, none⟩)]) (by simp) (by simp [go_sem]) ?_
  refine (unlock_deferred Try.muLib ⟨C, 0, none⟩ .returning _ (Cache.c0 HC.out) (Cache.f0 HC.out)).mono ?_
  rintro e u' w'' ⟨rfl, rfl, rfl⟩
  refine ⟨_, results_ct rfl _ _ w.heap.size _ rfl ((Below.heap_setCell _ ⟨C, 0, none⟩ _ w.heap.size (show w.heap.size ≠ C by omega)).trans HX.out), ?_⟩
  exact ⟨u, true, _, _, rfl, Cache.setS HC.out 0, HB.out.setCell (p := ⟨C, 0, none⟩) hle.1 _, .inr (.inl ⟨HH.out, HO.out, HD.out, rfl, rfl, rfl⟩), HK.out.trans (K_set HC.out _ _)⟩

set_option maxHeartbeats 1600000 in
theorem get_none {w : World} {B C z : Nat} {Dn Do : DataW Unit} (tok : ByteArray) (hc : Cache w B C 0 z Dn Do) (ht : tok.size ≤ maxLen) (hn : Maps.size Dn < maxLen) (hz : z ≤ 65536) (hh : Maps.has Dn (kl tok) = false) (ho : Maps.has Do (kl tok) = false) :
    Calls Try.prog 16 #[.pointer (some ⟨C, 0, none⟩), .string tok] w fun e w' => ∃ s b Dn' Do', e = .returned (.tuple #[vf s, .bool b]) ∧ Cache w' B C 0 z Dn' Do' ∧ Below B w w' ∧ GetRel z Dn Do tok s b Dn' Do' ∧ K w.heap.size w w' := by
  have hc1 := hc.alloc (.cells (vc (ByteArray.mk #[])) 40)
  have hle := hc.le
  have hb1 : Below B w (w.alloc (.cells (vc (ByteArray.mk #[])) 40)) := (Below.refl B w).alloc (by omega) _
  have hx := Box.new w (ByteArray.mk #[])
  have hk1 := K_alloc w.heap.size w (.cells (vc (ByteArray.mk #[])) 40)
  go_enter_defers Try.func16, Try.ntmps16
  go_wp2_with fail
  generalize hw1 : w.alloc _ = w1 at hc1 hb1 hx hk1 ⊢
  clear hw1
  refine (lock_free Try.muLib ⟨C, 0, none⟩ _ hc1.c0 hc1.f0).mono ?_
  rintro e w2 ⟨rfl, hw2⟩
  have hc2 := hc1.setS 1
  have hb2 := hb1.setCell (p := ⟨C, 0, none⟩) hle.1 (.int .i32 1)
  have hx2 : Box (w1.setCell ⟨C, 0, none⟩ (.int .i32 1)) w.heap.size (ByteArray.mk #[]) := (Below.heap_setCell w1 ⟨C, 0, none⟩ _ w.heap.size (show w.heap.size ≠ C by omega)).trans hx
  have hk2 := hk1.trans (K_set hc1 w.heap.size (.int .i32 1))
  rw [← hw2] at hc2 hb2 hx2 hk2
  have hsz : w.heap.size ≤ w2.heap.size := Nat.le_of_lt hx2.lt
  clear hw2 hc1 hb1 hx hc hk1
  obtain ⟨nb, ov, k1, k2, k3, k4, k5⟩ := id hc2
  have e3 := k1.c3
  obtain ⟨s, hl, hd⟩ := new_look tok ht k2
  rw [hh] at hl
  obtain ⟨w3, hs3, hc3, hb3, hx3, hy3, kk3⟩ := fresh_store hc2 hx2 s
  obtain ⟨nb3, ov3, m1, m2, m3, m4, m5⟩ := id hc3
  have e4 := m1.c4
  obtain ⟨u, hl3, hd3⟩ := old_look tok ht m3
  rw [ho] at hl3
  obtain ⟨w4, hs4, hc4, hb4, hx4, hy4, kk4⟩ := fresh_store hc3 hx3 u
  have hu : u = ByteArray.mk #[] := dl_inj (by rw [← hd3]; exact atKey_of_not_has ho _)
  subst hu
  obtain ⟨w5, hs5, hc5, hb5, hx5, kk5⟩ := box_store hc4 hx4 (by omega) (ByteArray.mk #[])
  have HL1 : Hid _ := hl
  have HL3 : Hid _ := hl3
  have HS3 : Hid _ := hs3
  have HS4 : Hid _ := hs4
  have HS5 : Hid _ := hs5
  have HY : Hid _ := hy4.load
  have HC : Hid (Cache w5 B C 1 z Dn Do) := hc5
  have HX : Hid (Box w5 w.heap.size (ByteArray.mk #[])) := hx5
  have HB : Hid (Below B w w5) := hb2.trans (hb3.trans (hb4.trans hb5))
  have HK : Hid (K w.heap.size w w5) := hk2.trans ((kk3 _ hsz).trans ((kk4 _ (Nat.le_of_lt hx3.lt)).trans (kk5 _ (Nat.le_refl _))))
  have HH : Hid (Maps.has Dn (kl tok) = false) := hh
  have HO : Hid (Maps.has Do (kl tok) = false) := ho
  clear hk2 kk3 kk4 kk5 hsz hl hl3 hs3 hs4 hs5 hc3 hc4 hc5 hb3 hb4 hb5 hx3 hx4 hx5 hy3 hy4 hc2 hb2 hx2 k1 k2 k3 k4 k5 m1 m2 m3 m4 m5 hd hd3 hh ho
  go_wp2_with (first
    | (refine wpList_lk (by rfl) _ _ 55 (by rfl) _ _ _ (by rfl) (by rfl) HL1.out ?_)
    | (refine wpList_lk (by rfl) _ _ 55 (by rfl) _ _ _ (by rfl) (by rfl) HL3.out ?_)
    | (refine wpList_st (by rfl) _ _ 40 (by rfl) _ _ (by rfl) (by rfl) HS3.out ?_)
    | (refine wpList_st (by rfl) _ _ 40 (by rfl) _ _ (by rfl) (by rfl) HS4.out ?_)
    | (refine wpList_st (by rfl) _ _ 40 (by rfl) _ _ (by rfl) (by rfl) HS5.out ?_)
    | (refine wpList_ld (by rfl) _ 40 (by rfl) _ _ (by rfl) HY.out ?_))
  refine leaves_cons (f := 20) (args := #[.pointer (some ⟨C, 0, none⟩)]) (by simp) (by simp [go_sem]) ?_
  refine (unlock_deferred Try.muLib ⟨C, 0, none⟩ .returning _ (Cache.c0 HC.out) (Cache.f0 HC.out)).mono ?_
  rintro e u' w'' ⟨rfl, rfl, rfl⟩
  refine ⟨_, results_ct rfl _ _ w.heap.size _ rfl ((Below.heap_setCell _ ⟨C, 0, none⟩ _ w.heap.size (show w.heap.size ≠ C by omega)).trans HX.out), ?_⟩
  exact ⟨_, false, Dn, Do, rfl, Cache.setS HC.out 0, HB.out.setCell (p := ⟨C, 0, none⟩) hle.1 _, .inr (.inr ⟨HH.out, HO.out, rfl, rfl, rfl, rfl⟩), HK.out.trans (K_set HC.out _ _)⟩

theorem get_any {w : World} {B C z : Nat} {Dn Do : DataW Unit} (tok : ByteArray) (hc : Cache w B C 0 z Dn Do) (ht : tok.size ≤ maxLen) (hn : Maps.size Dn < maxLen) (hz : z ≤ 65536) :
    Calls Try.prog 16 #[.pointer (some ⟨C, 0, none⟩), .string tok] w fun e w' => ∃ s b Dn' Do', e = .returned (.tuple #[vf s, .bool b]) ∧ Cache w' B C 0 z Dn' Do' ∧ Below B w w' ∧ GetRel z Dn Do tok s b Dn' Do' ∧ K w.heap.size w w' := by
  cases hh : Maps.has Dn (kl tok)
  · cases ho : Maps.has Do (kl tok)
    · exact get_none tok hc ht hn hz hh ho
    · exact get_old tok hc ht hn hz hh ho
  · exact get_new tok hc ht hh

end Go.Proofs.Qxb6603579a
