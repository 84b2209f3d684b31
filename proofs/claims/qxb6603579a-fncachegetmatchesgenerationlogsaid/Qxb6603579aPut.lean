/- WORK: the cache as data; add, put. -/
import Derived.Test.Qxb6603579aAdd
import Derived.Defers
set_option linter.unusedVariables false
namespace Go.Proofs.Qxb6603579a
open Go.RowKit Go.Maps
open Go.MuLone
open Go.WideShapes Go.ChangeMaps Go.WideMaps

theorem wpList_ld {P : Program} {w : World} {ops : Array Oper} {rest : List Oper} {o : Oper} {a : Act} {Q : Exit → Act → World → Prop} (hg : o.guard = none) (x : Operand) (t : TypeId) (ho : o.op = .load t x) (p v : Value) (hx : a.eval x = p)
    (hr : (Instr.loadAt t p).run P w = .ok v w) (h : wpList P ops Q rest (a.put o.dst v) w) : wpList P ops Q (o :: rest) a w := by
  refine wpList_plain hg fun K' hK' => ?_
  unfold Oper.wp execOp
  simp only [ho, hx, Sem.run_bind, Sem.run_pure, hr, Result.andThen_ok]
  exact hK' _ _ h
abbrev kl (s : ByteArray) : Lit := .string s.data.toList
abbrev dl (s : ByteArray) : DataW Unit := .lit (.string s.data.toList)

theorem own_size {w : World} {nb n : Nat} {D : DataW Unit} (h : w.ownsMap Try.prog 9 velem nb n D) : w.ownsMap Try.prog 9 velem nb (Maps.size D) D := by
  obtain ⟨es, clock, hb, F, hs, rfl⟩ := h
  exact ⟨es, clock, hb, F, by simp [Maps.size, length_sorted], rfl⟩

/-- The older map. -/
def Old (w : World) (B nb : Nat) (ov : Value) (Do : DataW Unit) : Prop :=
  (ov = .map none ∧ Do = .map []) ∨ ∃ ob, ov = .map (some ob) ∧ B ≤ ob ∧ ob ≠ nb ∧ w.ownsMap Try.prog 9 velem ob (Maps.size Do) Do
/-- A cache at block C, all of it at or above block B, the lock's word s. -/
def Cache (w : World) (B C : Nat) (s : Int) (z : Nat) (Dn Do : DataW Unit) : Prop :=
  ∃ nb ov, CS w C s z (.map (some nb)) ov ∧ w.ownsMap Try.prog 9 velem nb (Maps.size Dn) Dn ∧ Old w B nb ov Do ∧ B ≤ C ∧ B ≤ nb

/-- What add does to the two maps. -/
def stepN (z : Nat) (Dn : DataW Unit) (k v : ByteArray) : DataW Unit := if z / 2 ≤ Maps.size Dn then DataW.put (.map []) (kl k) (dl v) else Dn.put (kl k) (dl v)
def stepO (z : Nat) (Dn Do : DataW Unit) : DataW Unit := if z / 2 ≤ Maps.size Dn then Dn else Do

theorem below_gby {w w' : World} {B : Nat} {r : Option Nat} (h : w.grownBy w' r) (hB : B ≤ w.heap.size) (hr : ∀ k, r = some k → B ≤ k) : Below B w w' := (Below.refl B w).grown h hB hr

/-- The blocks of cells below n, but for caches, are kept. -/
def K (n : Nat) (w w' : World) : Prop := ∀ (g : Nat) (cs : Array Value) (t : TypeId) (fz : Nat × Nat), g < n → t ≠ 64 → w.heap[g]? = some (Obj.cells cs t fz) → w'.heap[g]? = some (Obj.cells cs t fz)
theorem K.trans {n : Nat} {a b c : World} (h : K n a b) (k : K n b c) : K n a c := fun g cs t fz hg ht ha => k g cs t fz hg ht (h g cs t fz hg ht ha)
theorem K_alloc (n : Nat) (w : World) (o : Obj) : K n w (w.alloc o) := fun g cs t fz _ _ h => (Below.heap_alloc _ _ _ (Array.getElem?_eq_some_iff.1 h).1).trans h
theorem K_set {w : World} {B C z : Nat} {s : Int} {Dn Do : DataW Unit} (hc : Cache w B C s z Dn Do) (n : Nat) (v : Value) : K n w (w.setCell ⟨C, 0, none⟩ v) := by
  obtain ⟨nb, ov, h1, _⟩ := hc
  intro g cs t fz _ ht h
  refine (Below.heap_setCell w ⟨C, 0, none⟩ _ g ?_).trans h
  rintro (rfl : g = C)
  unfold CS at h1
  rw [h1] at h
  injection h with h
  injection h with _ h _
  exact ht h.symm

theorem add_any {w : World} {B C z : Nat} {s : Int} {Dn Do : DataW Unit} (tok name : ByteArray) (hc : Cache w B C s z Dn Do) (hn : Maps.size Dn < maxLen) (hz : z ≤ 65536) (ht : tok.size ≤ maxLen) :
    Calls Try.prog 21 #[.pointer (some ⟨C, 0, none⟩), .string tok, vf name] w fun e w' => e = .returned (.tuple #[]) ∧ Cache w' B C s z (stepN z Dn tok name) (stepO z Dn Do) ∧ Below B w w' ∧ ∀ n, K n w w' := by
  obtain ⟨nb, ov, h1, h2, h3, h4, h5⟩ := hc
  have hlt := h1.lt
  have nC : ∀ g cs t fz, t ≠ 64 → w.heap[g]? = some (.cells cs t fz) → g ≠ C := by
    rintro g cs t fz ht hg rfl
    unfold CS at h1
    rw [h1] at hg
    injection hg with hg
    injection hg with _ hg _
    exact ht hg.symm
  have nN : ∀ g cs t fz, w.heap[g]? = some (.cells cs t fz) → g ≠ nb := by
    rintro g cs t fz hg rfl
    obtain ⟨es, clock, hb, _⟩ := h2
    rw [hb] at hg
    cases hg
  by_cases hD : z / 2 ≤ Maps.size Dn
  · refine (add_turn C nb _ z s ov Dn tok name w h1 h2 hn hz ht hD).mono ?_
    rintro e w' ⟨rfl, nb', hb', k1, k2, k3⟩
    refine ⟨rfl, ?_, below_gby k3 (by omega) (fun k hk => by have := Option.some.inj hk; omega), fun n g cs t fz _ ht hg => (k3.block g (Array.getElem?_eq_some_iff.1 hg).1 (fun e => nC g cs t fz ht hg (Option.some.inj e))).trans hg⟩
    unfold stepN stepO
    rw [if_pos hD, if_pos hD]
    have hnb := h2.lt
    refine ⟨nb', _, k1, own_size k2, .inr ⟨nb, rfl, h5, by omega, h2.kept k3 (fun e => h1.ne h2 (Option.some.inj e).symm)⟩, h4, by omega⟩
  · refine (add_keep C nb _ z s ov Dn tok name w h1 h2 hn hz ht (by omega)).mono ?_
    rintro e w' ⟨rfl, k1, k2, k3⟩
    refine ⟨rfl, ?_, below_gby k3 (by omega) (fun k hk => by have := Option.some.inj hk; omega), fun n g cs t fz _ ht hg => (k3.block g (Array.getElem?_eq_some_iff.1 hg).1 (fun e => nN g cs t fz hg (Option.some.inj e))).trans hg⟩
    unfold stepN stepO
    rw [if_neg hD, if_neg hD]
    refine ⟨nb, ov, k1, own_size k2, ?_, h4, h5⟩
    rcases h3 with h3 | ⟨ob, e1, e2, e3, e4⟩
    · exact .inl h3
    · exact .inr ⟨ob, e1, e2, e3, e4.kept k3 (fun e => e3 (Option.some.inj e))⟩

theorem Cache.setS {w : World} {B C z : Nat} {s : Int} {Dn Do : DataW Unit} (h : Cache w B C s z Dn Do) (s' : Int) : Cache (w.setCell ⟨C, 0, none⟩ (.int .i32 s')) B C s' z Dn Do := by
  obtain ⟨nb, ov, h1, h2, h3, h4, h5⟩ := h
  refine ⟨nb, ov, h1.set0 s', h2.setCell (a := ⟨C, 0, none⟩) (fun e => h1.ne h2 e.symm) _, ?_, h4, h5⟩
  rcases h3 with h3 | ⟨ob, e1, e2, e3, e4⟩
  · exact .inl h3
  · exact .inr ⟨ob, e1, e2, e3, e4.setCell (a := ⟨C, 0, none⟩) (fun e => h1.ne e4 e.symm) _⟩
theorem Cache.alloc {w : World} {B C z : Nat} {s : Int} {Dn Do : DataW Unit} (h : Cache w B C s z Dn Do) (o : Obj) : Cache (w.alloc o) B C s z Dn Do := by
  obtain ⟨nb, ov, h1, h2, h3, h4, h5⟩ := h
  refine ⟨nb, ov, h1.kept (Below.heap_alloc _ _ _ h1.lt), h2.alloc o, ?_, h4, h5⟩
  rcases h3 with h3 | ⟨ob, e1, e2, e3, e4⟩
  · exact .inl h3
  · exact .inr ⟨ob, e1, e2, e3, e4.alloc o⟩
theorem Cache.c0 {w : World} {B C z : Nat} {s : Int} {Dn Do : DataW Unit} (h : Cache w B C s z Dn Do) : w.cell? ⟨C, 0, none⟩ = some (.int .i32 s) := by
  obtain ⟨nb, ov, h1, _⟩ := h
  exact h1.c0
theorem Cache.f0 {w : World} {B C z : Nat} {s : Int} {Dn Do : DataW Unit} (h : Cache w B C s z Dn Do) : w.frozen? ⟨C, 0, none⟩ = false := by
  obtain ⟨nb, ov, h1, _⟩ := h
  exact h1.fz 0
theorem Cache.le {w : World} {B C z : Nat} {s : Int} {Dn Do : DataW Unit} (h : Cache w B C s z Dn Do) : B ≤ C ∧ C < w.heap.size := by
  obtain ⟨nb, ov, h1, _, _, h4, _⟩ := h
  exact ⟨h4, h1.lt⟩

set_option maxHeartbeats 1600000 in
theorem put_any {w : World} {B C z : Nat} {Dn Do : DataW Unit} (tok name : ByteArray) (hc : Cache w B C 0 z Dn Do) (hn : Maps.size Dn < maxLen) (hz : z ≤ 65536) (ht : tok.size ≤ maxLen) :
    Calls Try.prog 18 #[.pointer (some ⟨C, 0, none⟩), .string tok, vf name] w fun e w' => e = .returned (.tuple #[]) ∧ Cache w' B C 0 z (stepN z Dn tok name) (stepO z Dn Do) ∧ Below B w w' ∧ ∀ n, K n w w' := by
  have hc1 := hc.alloc (.cells (match vf name with | .agg ds => ds | _ => #[]) 40)
  have hle := hc.le
  have hb1 : Below B w (w.alloc (.cells (match vf name with | .agg ds => ds | _ => #[]) 40)) := (Below.refl B w).alloc (by omega) _
  have hx := heap_new w (.cells (match vf name with | .agg ds => ds | _ => #[]) 40)
  have hk1 : ∀ n, K n w (w.alloc (.cells (match vf name with | .agg ds => ds | _ => #[]) 40)) := fun n => K_alloc n w _
  go_enter_defers Try.func18, Try.ntmps18
  go_wp2_with fail
  generalize hw1 : w.alloc _ = w1 at hc1 hb1 hx hk1 ⊢
  clear hw1
  refine (lock_free Try.muLib ⟨C, 0, none⟩ _ hc1.c0 hc1.f0).mono ?_
  rintro e w2 ⟨rfl, hw2⟩
  have hc2 := hc1.setS 1
  have hb2 := hb1.setCell (p := ⟨C, 0, none⟩) hle.1 (.int .i32 1)
  have hx2 : (w1.setCell ⟨C, 0, none⟩ (.int .i32 1)).heap[w.heap.size]? = _ := (Below.heap_setCell w1 ⟨C, 0, none⟩ _ w.heap.size (show w.heap.size ≠ C by omega)).trans hx
  have hk2 : ∀ n, K n w (w1.setCell ⟨C, 0, none⟩ (.int .i32 1)) := fun n => (hk1 n).trans (K_set hc1 n _)
  rw [← hw2] at hc2 hb2 hx2 hk2
  clear hw2 hc1 hb1 hx hc hk1
  have HC : Hid _ := hc2
  have HB : Hid _ := hb2
  have HK : Hid _ := hk2
  have HN : Hid _ := hn
  have HX : Hid _ := load40 hx2
  clear hc2 hb2 hx2 hn hk2
  go_wp2_with (refine wpList_ld (by rfl) _ 40 (by rfl) _ _ (by rfl) HX.out ?_)
  refine (add_any tok name HC.out HN.out hz ht).mono ?_
  rintro e w3 ⟨rfl, hc3, hb3, hk3⟩
  have HC3 : Hid _ := hc3
  have HB3 : Hid _ := HB.out.trans hb3
  have HK3 : Hid (∀ n, K n w w3) := fun n => (HK.out n).trans (hk3 n)
  clear hc3 hb3 hk3
  go_wp2
  refine leaves_cons (f := 20) (args := #[.pointer (some ⟨C, 0, none⟩)]) (by simp) (by simp [go_sem]) ?_
  refine (unlock_deferred Try.muLib ⟨C, 0, none⟩ .returning _ (Cache.c0 HC3.out) (Cache.f0 HC3.out)).mono ?_
  rintro e u' w'' ⟨rfl, rfl, rfl⟩
  exact ⟨_, results_none rfl _ _ _, rfl, Cache.setS HC3.out 0, HB3.out.setCell (p := ⟨C, 0, none⟩) hle.1 _, fun n => (HK3.out n).trans (K_set HC3.out n _)⟩
end Go.Proofs.Qxb6603579a
