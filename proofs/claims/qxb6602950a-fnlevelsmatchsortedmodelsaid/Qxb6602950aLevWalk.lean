/- WORK: (*devices).levels. -/
import Derived.Test.Qxb6602950aLevMem
import Derived.Test.Qxb6602950aLevLaw
import Derived.Test.Qxb6602950aLevSort
namespace Go.Proofs.Qxb6602950a
open Go.RowKit

theorem info44b : (Try.prog.info? 44).map (fun i => (i.zero, i.size, i.bytes)) = some (some (.agg #[.int .i64 0, .int .i64 0]), 2, 16) := by kernel_rfl

set_option maxHeartbeats 400000 in
/-- No device used, n above 0: one level. -/
theorem levels_one (bd : Nat) (n : Int) (ua : Option Addr) (ucap : Nat) (tv : Value) (w : World) (hn0 : 0 < n)
    (hd0 : w.cell? ⟨bd, 0, none⟩ = some (.int .i64 n)) (hd1 : w.cell? ⟨bd, 1, none⟩ = some (.slice ua 0 ucap)) :
    Calls Try.prog 16 #[.pointer (some ⟨bd, 0, none⟩), .slice none 0 0, tv] w fun e w' => ∃ v', e = .returned (.tuple #[v', tv]) ∧ w'.ownsRow w.heap.size 44 2 v' 1 [.int .i64 0, .int .i64 n] ∧ w.grownBy w' none := by
  obtain ⟨i0, hi, hz0, hz1, hz2⟩ := info_parts info44b
  go_enter Try.func16, Try.ntmps16
  go_wp2
  go_region_held3 (fun w' => w'.cell? ⟨bd, 0, none⟩ = some (.int .i64 n)) (first | (go_keep; done) | exact hg.cell (by go_keep) (by simp [Value.ownBlock]))
    ((refine step_append_opt _ (by rfl) _ _ _ (by rfl) w.heap.size 44 i0 _ 2 16 Try.underlying40 hi hz0 hz1 hz2 (by rfl) (by omega) (.slice none 0 0) 0 [] (by rfl) (World.ownsRow_nil _ _ _ _) (some ⟨w.heap.size, 0, none⟩) 1 1 [.int .i64 0, .int .i64 n] (by rfl) (by intro h; cases h) (by rfl) (by intro a ha; cases ha; exact World.news_of_block (cs := #[.int .i64 0, .int .i64 n]) (heap_alloc_new w _)) (by intro u hu; simp at hu; rcases hu with rfl | rfl <;> rfl) (by unfold maxLen; omega) (by omega) (by simp) ?_; intro v' w1 ho hg hat))
  go_wp2
  go_ret2
  refine ⟨v', rfl, by simpa using ho, ?_⟩
  exact gby_trans (gby_drew (World.grownBy_alloc w _ none)) hg (fun b hb => by simp [Value.ownBlock] at hb)

/-- A run of used devices: what came in as 'used'. -/
def Src (w : World) (ao : Option Addr) (m c : Nat) (U : List Int) : Prop := U.length = m ∧ (ao = none → m = 0 ∧ c = 0) ∧ ∀ a, ao = some a → ∀ j u, (U.map (Value.int .i64))[j]? = some u → w.cell? (a.add j) = some u
theorem Src.grown {w w' : World} {ao : Option Addr} {m c : Nat} {U : List Int} {row : Option Nat} (h : Src w ao m c U) (hg : w.grownBy w' row) (hne : ∀ a, ao = some a → some a.block ≠ row) : Src w' ao m c U :=
  ⟨h.1, h.2.1, fun a ha j u hu => hg.cell (h.2.2 a ha j u hu) (by rw [add_block]; exact hne a ha)⟩
theorem oneCell_ints (U : List Int) : ∀ u ∈ U.map (Value.int .i64), u.oneCell' = true := by
  intro u hu
  obtain ⟨x, _, rfl⟩ := List.mem_map.1 hu
  rfl


theorem slice0 {w0 : World} {B : Nat} {ta : Option Addr} {tn tcap : Nat} {txs : List Value} (_h : w0.ownsRow B 2 1 (.slice ta tn tcap) tn txs) (w : World) :
    (Instr.slice 22 (.slice ta tn tcap) none (some (.int .i64 0)) none).run Try.prog w = .ok (.slice ta 0 tcap) w := by
  have hs : ∀ w, (sizeOf 2).run Try.prog w = .ok 1 w := fun w => Try.sizeOf2 w
  cases ta with
  | none => by_cases hc : tcap = 0 <;> simp [Instr.slice, run_underlying Try.underlying22, Instr.sliceBounds, run_sliceBound, hs, hc]
  | some a => by_cases hc : tcap = 0 <;> simp [Addr.add, Instr.slice, run_underlying Try.underlying22, Instr.sliceBounds, run_sliceBound, hs, hc]
theorem owns0 {w : World} {B : Nat} {ta : Option Addr} {tn tcap : Nat} {txs : List Value} (h : w.ownsRow B 2 1 (.slice ta tn tcap) tn txs) : w.ownsRow B 2 1 (.slice ta 0 tcap) 0 [] := by
  refine ⟨by simp, ?_⟩
  rcases h.2 with ⟨h1, h2⟩ | ⟨g, cap, cur, h1, h2, h3, h4, h5, h6, _⟩
  · simp at h1; obtain ⟨rfl, rfl, rfl⟩ := h1; exact .inl ⟨rfl, rfl⟩
  · simp at h1; obtain ⟨rfl, rfl⟩ := h1; exact .inr ⟨g, tcap, cur, rfl, h2, h3, Nat.zero_le _, h5, h6, by simp⟩

theorem ownsRow_shape {w : World} {B e size n : Nat} {v : Value} {xs : List Value} (h : w.ownsRow B e size v n xs) : ∃ a c, v = .slice a n c ∧ (0 < n → ∃ g, a = some ⟨g, 0, none⟩) := by
  rcases h.2 with ⟨rfl, rfl⟩ | ⟨g, cap, cur, rfl, _⟩
  · exact ⟨none, 0, rfl, fun h => by omega⟩
  · exact ⟨_, _, rfl, fun _ => ⟨g, rfl⟩⟩
theorem ownsRow_base {w : World} {B B' e size n : Nat} {v : Value} {xs : List Value} (h : w.ownsRow B e size v n xs) (hB : B' ≤ B) : w.ownsRow B' e size v n xs :=
  ⟨h.1, h.2.imp id fun ⟨g, cap, cur, h1, h2, h3⟩ => ⟨g, cap, cur, h1, Nat.le_trans hB h2, h3⟩⟩
def flat (ls : List (Int × Int)) : List Value := ls.flatMap fun p => [.int .i64 p.1, .int .i64 p.2]
theorem flat_append (a b : List (Int × Int)) : flat (a ++ b) = flat a ++ flat b := by simp [flat]
theorem flat_length (a : List (Int × Int)) : (flat a).length = a.length * 2 := by
  induction a with
  | nil => rfl
  | cons p a ih => simp only [flat, List.flatMap_cons, List.length_append, List.length_cons, List.length_nil]; simp only [flat] at ih; rw [ih]; omega
theorem flat_last (m : List (Int × Int)) (a c : Int) : (flat (m ++ [(a, c)]))[m.length * 2]? = some (.int .i64 a) ∧ (flat (m ++ [(a, c)]))[m.length * 2 + 1]? = some (.int .i64 c) := by
  rw [flat_append, List.getElem?_append_right (by rw [flat_length]; exact Nat.le_refl _), List.getElem?_append_right (by rw [flat_length]; omega), flat_length, Nat.sub_self]
  rw [show m.length * 2 + 1 - m.length * 2 = 1 from by omega]
  exact ⟨rfl, rfl⟩
theorem flat_set (m : List (Int × Int)) (a c d : Int) : (flat (m ++ [(a, c)])).set (m.length * 2 + 1) (.int .i64 d) = flat (m ++ [(a, d)]) := by
  rw [flat_append, flat_append, List.set_append_right _ _ (by rw [flat_length]; omega), flat_length]
  rw [show m.length * 2 + 1 - m.length * 2 = 1 from by omega]
  rfl
theorem runs_take {S : List Int} {k : Nat} {t : Int} (hk : k < S.length) (ht : S[k] = t) : Lev.runs (S.take (k + 1)) = Lev.pushRun (Lev.runs (S.take k)) t := by
  rw [List.take_succ_eq_append_getElem hk, ht, Lev.runs_snoc]
theorem runs_bd {S : List Int} {k : Nat} {m : List (Int × Int)} {a c : Int} (h : m ++ [(a, c)] = Lev.runs (S.take k)) : m.length + 1 ≤ S.length ∧ 1 ≤ c ∧ c ≤ S.length := by
  have h1 := Lev.runs_length (S.take k)
  have h2 := Lev.runs_count (S.take k) (a, c) (by rw [← h]; simp)
  rw [← h] at h1
  have h3 : (S.take k).length ≤ S.length := by rw [List.length_take]; omega
  simp only [List.length_append, List.length_cons, List.length_nil] at h1
  simp only at h2
  omega

set_option maxHeartbeats 1600000 in
theorem levels_main (bd : Nat) (n : Int) (ua : Option Addr) (ulen ucap : Nat) (U : List Int) (ta : Option Addr) (tn tcap : Nat) (txs : List Value) (B : Nat) (r : Option Nat) (w : World) (hn : n ≤ 65536) (hn' : -65536 ≤ n) (hul : ulen ≤ 131072)
    (hm : 0 < ulen)
    (hd0 : w.cell? ⟨bd, 0, none⟩ = some (.int .i64 n)) (hd1 : w.cell? ⟨bd, 1, none⟩ = some (.slice ua ulen ucap)) (hU : Src w ua ulen ucap U)
    (ht : w.ownsRow B 2 1 (.slice ta tn tcap) tn txs) (hBw : B ≤ w.heap.size) (hr : (Value.slice ta 0 tcap).ownBlock = r) (hne1 : some bd ≠ r)
    (S : List Int) (hS : S = (U ++ List.replicate (n - ulen).toNat 0).mergeSort fun x y => decide (x ≤ y)) :
    Calls Try.prog 16 #[.pointer (some ⟨bd, 0, none⟩), .slice none 0 0, .slice ta tn tcap] w fun e w' => ∃ v' tv', e = .returned (.tuple #[v', tv']) ∧ w'.ownsRow w.heap.size 44 2 v' (Lev.runs S).length (flat (Lev.runs S)) ∧ w'.ownsRow B 2 1 tv' S.length (S.map (Value.int .i64)) ∧ w.grownBy w' r := by
  obtain ⟨i0, hi, hz0, hz1, hz2⟩ := info_parts info44b
  obtain ⟨i2, gi, gz0, gz1, gz2⟩ := info_parts info2
  have hsl := slice0 ht
  have ht0 := owns0 ht
  have hUl := hU.1
  have HS : Hid (S = (U ++ List.replicate (n - ulen).toNat 0).mergeSort fun x y => decide (x ≤ y)) := hS
  clear hS
  go_enter Try.func16, Try.ntmps16
  go_wp2
  go_region_held3 (fun w' => w'.cell? ⟨bd, 0, none⟩ = some (.int .i64 n) ∧ w'.cell? ⟨bd, 1, none⟩ = some (.slice ua ulen ucap)) (first | (go_keep; done) | exact ⟨hg.cell (by go_keep) hne1, hg.cell (by go_keep) hne1⟩)
    ((refine step_append_opt _ (by rfl) _ _ _ (by rfl) B 2 i2 _ 1 8 Try.underlying22 gi gz0 gz1 gz2 (by rfl) (by omega) (.slice ta 0 tcap) 0 [] (by rfl) (by exact ht0) ua ulen ucap (U.map (Value.int .i64)) (by rfl) hU.2.1 (by simpa using hU.1) (by exact hU.2.2) (oneCell_ints U) (by unfold maxLen; omega) (by omega) (by exact hBw) ?_; intro tv1 w1 ho hg hat; rw [hr] at hg hat))
  have c0 : w1.cell? ⟨bd, 0, none⟩ = some (.int .i64 n) := hg.cell (by go_keep) hne1
  have c1 : w1.cell? ⟨bd, 1, none⟩ = some (.slice ua ulen ucap) := hg.cell (by go_keep) hne1
  have hG : w.grownBy w1 r := ⟨hg.os, hg.tape, hg.output, hg.size, hg.block⟩
  have hA : ∀ b, tv1.ownBlock = some b → r = some b ∨ w.heap.size ≤ b := fun b hb => by
    rcases hat with h | h
    · exact .inl (h ▸ hb)
    · rw [h] at hb; have := Option.some.inj hb; simp at this; right; omega
  simp only [Nat.zero_add, List.nil_append] at ho
  clear hat hg hr hU ht ht0 hsl
  go_wp2
  go_quiet (fail)
  go_wp2
  have ho' : (w1.drewN nq).ownsRow B 2 1 tv1 ulen (U.map (Value.int .i64)) := ho
  have hG' : w.grownBy (w1.drewN nq) r := gby_drewN hG nq
  generalize w1.drewN nq = w2 at ho' hG' ⊢
  clear ho hG c0 c1 hd0 hd1
  go_loopw [2, 51] (fun tv i wr => ∃ k : Nat, k ≤ (n - ulen).toNat ∧ i = .int .i64 k ∧ wr.ownsRow B 2 1 tv (ulen + k) ((U ++ List.replicate k 0).map (Value.int .i64)) ∧ w.grownBy wr r ∧ (∀ b, tv.ownBlock = some b → r = some b ∨ w.heap.size ≤ b)) (fun _ i _ => (n - ulen).toNat - (intOf i).toNat)
  case atStart => exact ⟨0, Nat.zero_le _, rfl, by simpa using ho', hG', hA⟩
  case round =>
    clear ho' hG' hA
    obtain ⟨k, hk, rfl, hown, hG, hA⟩ := hrel
    have hszw := hG.size
    by_cases hlt : (k : Int) < n - ulen
    · go_wp2_with (at_builtin; refine wpList_append_opt _ rfl _ _ 22 rfl B 2 i2 _ 1 8 Try.underlying22 gi gz0 gz1 gz2 rfl (by omega) _ _ _ rfl (hown.alloc _) (some ⟨wr.heap.size, 0, none⟩) 1 1 [.int .i64 0] rfl (by intro h; cases h) rfl ?c1 (by intro u hu; simp at hu; subst hu; rfl) (by unfold maxLen; omega) (by omega) (by simp; omega) ?_)
      case c1 => intro a ha; cases ha; exact World.news_of_block (cs := #[.int .i64 0]) (heap_alloc_new wr _)
      intro tv2 w3 ho2 hg2 hat2
      have R1 : w3.ownsRow B 2 1 tv2 (ulen + (k + 1)) ((U ++ List.replicate (k + 1) 0).map (Value.int .i64)) := by
        have e : (U ++ List.replicate (k + 1) 0).map (Value.int .i64) = U.map (Value.int .i64) ++ (List.replicate k (Value.int .i64 0) ++ [Value.int .i64 0]) := by simp [List.replicate_succ']
        rw [e]; exact ho2
      have R2 : w.grownBy w3 r := gby_trans (gby_alloc hG _) hg2 (fun b hb => hA b hb)
      have R3 : ∀ b, tv2.ownBlock = some b → r = some b ∨ w.heap.size ≤ b := fun b hb => by
        rcases hat2 with h | h
        · exact hA b (h ▸ hb)
        · rw [h] at hb; have := Option.some.inj hb; right; omega
      clear ho2 hg2 hat2 hown hG hA
      go_wp2
      go_roundw
      case rel => exact ⟨k + 1, by omega, by go_num, R1, R2, R3⟩
      case measure => simp [intOf]; omega
    · have hkz : k = (n - ulen).toNat := by omega
      subst hkz
      have hlen : (U ++ List.replicate (n - ulen).toNat 0).length = ulen + (n - ulen).toNat := by simp [hUl]
      have hown' : wr.ownsRow B 2 1 u2 (U ++ List.replicate (n - ulen).toNat 0).length ((U ++ List.replicate (n - ulen).toNat 0).map (Value.int .i64)) := by rw [hlen]; exact hown
      have hlen' : (U ++ List.replicate (n - ulen).toNat 0).length ≤ 1048576 := by rw [hlen]; omega
      clear hlen hown
      go_wp2_with fail
      refine (sort_own B u2 _ _ hlen' hown').mono ?_
      rintro e w5 ⟨rfl, ho5, hg5⟩
      have hG5 : w.grownBy w5 r := gby_trans hG hg5 (fun b hb => hA b hb)
      rw [← HS.out] at ho5
      have hSl : (U ++ List.replicate (n - ulen).toNat 0).length = S.length := by rw [HS.out]; simp
      rw [hSl] at ho5 hlen'
      obtain ⟨a5, c5, hv5, hsh⟩ := ownsRow_shape ho5
      clear hown' hG hg5 hA hne1 hSl
      rw [hv5] at ho5 ⊢
      clear hv5
      go_wp2
      go_loopw [1, 63] (fun lvv i wr => ∃ (k : Nat) (R : List (Int × Int)) (a6 : Option Addr) (c6 m6 : Nat), k ≤ S.length ∧ i = .int .i64 k ∧ lvv = .slice a6 m6 c6 ∧ Hid (R = Lev.runs (S.take k) ∧ m6 = R.length) ∧ wr.ownsRow w5.heap.size 44 2 (.slice a6 m6 c6) m6 (flat R) ∧ w5.grownBy wr none) (fun _ i _ => S.length - (intOf i).toNat)
      case atStart => exact ⟨0, [], none, 0, 0, Nat.zero_le _, rfl, rfl, ⟨rfl, rfl⟩, World.ownsRow_nil _ _ _ _, gby_refl _ _⟩
      case round =>
        obtain ⟨k, R, a6, c6, m6, hk6, rfl, rfl, HR, ho6, hG6⟩ := hrel
        have hsz6 := hG6.size
        have hsz5 := hG5.size
        by_cases hlt6 : k < S.length
        · obtain ⟨g5, rfl⟩ := hsh (by omega)
          have hg5lt : g5 < w5.heap.size := (ho5.lt g5 rfl).2
          have hct : wr.cell? ⟨g5, k, none⟩ = some (.int .i64 S[k]) := hG6.cell (by rw [ho5.cellAt k (by omega)]; simp [hlt6]) (by simp)
          generalize hSk : S[k] = t at hct
          have HT : Hid (S[k] = t) := hSk
          clear hSk
          rcases Lev.snoc_cases R with rfl | ⟨m, ⟨a, c⟩, rfl⟩
          · have hm6 : m6 = 0 := HR.out.2
            subst hm6
            have ho6' : wr.ownsRow w5.heap.size 44 2 (.slice a6 0 c6) 0 [] := ho6
            clear ho6
            go_wp2_with (at_builtin; refine wpList_append_opt _ rfl _ _ 40 rfl w5.heap.size 44 i0 _ 2 16 Try.underlying40 hi hz0 hz1 hz2 rfl (by omega) _ _ _ rfl (ho6'.alloc _) (some ⟨wr.heap.size, 0, none⟩) 1 1 [.int .i64 t, .int .i64 1] rfl (by intro h; cases h) rfl ?c2 (by intro u hu; simp at hu; rcases hu with rfl | rfl <;> rfl) (by unfold maxLen; omega) (by omega) (by simp; omega) ?_)
            case c2 => intro a ha; cases ha; exact World.news_of_block (cs := #[.int .i64 t, .int .i64 1]) (heap_alloc_new wr _)
            intro v7 w7 ho7 hg7 hat7
            obtain ⟨a7, c7, hv7, _⟩ := ownsRow_shape ho7
            rw [hv7] at ho7 ⊢
            have R1 : Hid ([(t, 1)] = Lev.runs (S.take (k + 1)) ∧ 1 = [(t, (1 : Int))].length) := by
              refine ⟨?_, rfl⟩
              rw [runs_take hlt6 HT.out, ← HR.out.1]; rfl
            have R2 : w5.grownBy w7 none := gby_trans (gby_alloc hG6 _) hg7 (fun b hb => .inr (ho6'.lt b hb).1)
            clear hv7 hat7 hg7
            go_wp2
            go_roundw
            case rel => exact ⟨k + 1, [(t, 1)], a7, c7, 1, by omega, by go_num, rfl, R1, ho7, R2⟩
            case measure => simp [intOf]; omega
          · have hm6 : m6 = m.length + 1 := by rw [HR.out.2]; simp
            subst hm6
            obtain ⟨hbd1, hbd2, hbd3⟩ := runs_bd HR.out.1
            obtain ⟨g6, c6', hv6, hg6, hg6'⟩ := ho6.form (by omega)
            cases hv6
            have e1 : wr.cell? ⟨g6, m.length * 2, none⟩ = some (.int .i64 a) := by rw [ho6.cellAt _ (by omega)]; exact (flat_last m a c).1
            have e2 : wr.cell? ⟨g6, m.length * 2 + 1, none⟩ = some (.int .i64 c) := by rw [ho6.cellAt _ (by omega)]; exact (flat_last m a c).2
            have e3 := ho6.frozenAt (m.length * 2 + 1)
            by_cases hat : a = t
            · subst hat
              have hst := ho6.stored (m.length * 2 + 1) (.int .i64 (c + 1))
              rw [flat_set] at hst
              have R1 : Hid (m ++ [(a, c + 1)] = Lev.runs (S.take (k + 1)) ∧ m.length + 1 = (m ++ [(a, c + 1)]).length) := by
                refine ⟨?_, by simp⟩
                rw [runs_take hlt6 HT.out, ← HR.out.1, Lev.pushRun_hit]
              have R2 : w5.grownBy (wr.setCell ⟨g6, m.length * 2 + 1, none⟩ (.int .i64 (c + 1))) none := gby_trans hG6 hst.2 (fun b hb => .inr (by cases hb; exact hg6))
              have HZ : Hid _ := hst.1
              clear hst ho6
              go_wp2
              go_roundw
              case rel => exact ⟨k + 1, m ++ [(a, c + 1)], _, c6, m.length + 1, by omega, by go_num, rfl, R1, HZ.out, R2⟩
              case measure => simp [intOf]; omega
            · have hbe : (a == t) = false := by rw [beq_eq_false_iff_ne]; exact hat
              go_wp2_with (at_builtin; refine wpList_append_opt _ rfl _ _ 40 rfl w5.heap.size 44 i0 _ 2 16 Try.underlying40 hi hz0 hz1 hz2 rfl (by omega) _ _ _ rfl (ho6.alloc _) (some ⟨wr.heap.size, 0, none⟩) 1 1 [.int .i64 t, .int .i64 1] rfl (by intro h; cases h) rfl ?c3 (by intro u hu; simp at hu; rcases hu with rfl | rfl <;> rfl) (by unfold maxLen; omega) (by omega) (by simp; omega) ?_)
              case c3 => intro a ha; cases ha; exact World.news_of_block (cs := #[.int .i64 t, .int .i64 1]) (heap_alloc_new wr _)
              intro v7 w7 ho7 hg7 hat7
              obtain ⟨a7, c7, hv7, _⟩ := ownsRow_shape ho7
              rw [hv7] at ho7 ⊢
              have R1 : Hid (m ++ [(a, c)] ++ [(t, 1)] = Lev.runs (S.take (k + 1)) ∧ m.length + 1 + 1 = (m ++ [(a, c)] ++ [(t, 1)]).length) := by
                refine ⟨?_, by simp⟩
                rw [runs_take hlt6 HT.out, ← HR.out.1, Lev.pushRun_miss _ _ _ _ hat]
              have R2 : w5.grownBy w7 none := gby_trans (gby_alloc hG6 _) hg7 (fun b hb => .inr (ho6.lt b hb).1)
              have R3 : Hid (w7.ownsRow w5.heap.size 44 2 (.slice a7 (m.length + 1 + 1) c7) (m.length + 1 + 1) (flat (m ++ [(a, c)] ++ [(t, 1)]))) := by
                rw [flat_append _ [(t, 1)]]; exact ho7
              clear hv7 hat7 hg7 ho7
              go_wp2
              go_roundw
              case rel => exact ⟨k + 1, m ++ [(a, c)] ++ [(t, 1)], a7, c7, m.length + 1 + 1, by omega, by go_num, rfl, R1, R3.out, R2⟩
              case measure => simp [intOf]; omega
        · have hkS : k = S.length := by omega
          subst hkS
          have F1 : wr.ownsRow w.heap.size 44 2 (.slice a6 m6 c6) (Lev.runs S).length (flat (Lev.runs S)) := by
            have h1 := HR.out.1; have h2 := HR.out.2
            rw [List.take_length] at h1
            rw [← h1, ← h2]; exact ownsRow_base ho6 hG5.size
          have F2 : wr.ownsRow B 2 1 (.slice a5 S.length c5) S.length (S.map (Value.int .i64)) := ho5.kept hG6 (by
            cases (Value.slice a5 S.length c5).ownBlock <;> simp)
          have F3 : w.grownBy wr r := gby_trans hG5 hG6 (fun b hb => by cases hb)
          clear ho5 ho6 hG6 hG5 HR
          go_wp2
          go_ret2
          exact ⟨_, _, rfl, F1, F2, F3⟩

set_option maxHeartbeats 800000 in
/-- No device at all. -/
theorem levels_none (bd : Nat) (n : Int) (ua : Option Addr) (ucap : Nat) (ta : Option Addr) (tn tcap : Nat) (txs : List Value) (B : Nat) (r : Option Nat) (w : World) (hn : n ≤ 0) (hn' : -65536 ≤ n)
    (hd0 : w.cell? ⟨bd, 0, none⟩ = some (.int .i64 n)) (hd1 : w.cell? ⟨bd, 1, none⟩ = some (.slice ua 0 ucap)) (hU : Src w ua 0 ucap [])
    (ht : w.ownsRow B 2 1 (.slice ta tn tcap) tn txs) (hBw : B ≤ w.heap.size) (hr : (Value.slice ta 0 tcap).ownBlock = r) (hne1 : some bd ≠ r) :
    Calls Try.prog 16 #[.pointer (some ⟨bd, 0, none⟩), .slice none 0 0, .slice ta tn tcap] w fun e w' => ∃ tv', e = .returned (.tuple #[.slice none 0 0, tv']) ∧ w'.ownsRow B 2 1 tv' 0 [] ∧ w.grownBy w' r := by
  obtain ⟨i2, gi, gz0, gz1, gz2⟩ := info_parts info2
  have hsl := slice0 ht
  have ht0 := owns0 ht
  go_enter Try.func16, Try.ntmps16
  go_wp2
  go_region_held3 (fun w' => w'.cell? ⟨bd, 0, none⟩ = some (.int .i64 n) ∧ w'.cell? ⟨bd, 1, none⟩ = some (.slice ua 0 ucap)) (first | (go_keep; done) | exact ⟨hg.cell (by go_keep) hne1, hg.cell (by go_keep) hne1⟩)
    ((refine step_append_opt _ (by rfl) _ _ _ (by rfl) B 2 i2 _ 1 8 Try.underlying22 gi gz0 gz1 gz2 (by rfl) (by omega) (.slice ta 0 tcap) 0 [] (by rfl) (by exact ht0) ua 0 ucap [] (by rfl) hU.2.1 (by rfl) (by exact hU.2.2) (by simp) (by unfold maxLen; omega) (by omega) (by exact hBw) ?_; intro tv1 w1 ho hg hat; rw [hr] at hg hat))
  have c0 : w1.cell? ⟨bd, 0, none⟩ = some (.int .i64 n) := hg.cell (by go_keep) hne1
  have c1 : w1.cell? ⟨bd, 1, none⟩ = some (.slice ua 0 ucap) := hg.cell (by go_keep) hne1
  have hG : w.grownBy w1 r := ⟨hg.os, hg.tape, hg.output, hg.size, hg.block⟩
  have hA : ∀ b, tv1.ownBlock = some b → r = some b ∨ w.heap.size ≤ b := fun b hb => by
    rcases hat with h | h
    · exact .inl (h ▸ hb)
    · rw [h] at hb; have := Option.some.inj hb; simp at this; right; omega
  simp only [Nat.zero_add, List.nil_append] at ho
  clear hat hg hr hU ht ht0 hsl
  go_wp2
  go_quiet (fail)
  go_wp2
  have ho' : (w1.drewN nq).ownsRow B 2 1 tv1 ([] : List Int).length (([] : List Int).map (Value.int .i64)) := ho
  have hG' : w.grownBy (w1.drewN nq) r := gby_drewN hG nq
  generalize w1.drewN nq = w2 at ho' hG' ⊢
  clear ho hG c0 c1 hd0 hd1
  refine wp_loop_rounds 1 ?_
  rw [rounds_succ]
  go_wp2_with fail
  refine (sort_own B tv1 [] _ (by simp) ho').mono ?_
  rintro e w5 ⟨rfl, ho5, hg5⟩
  have hG5 : w.grownBy w5 r := gby_trans hG' hg5 (fun b hb => hA b hb)
  obtain ⟨a5, c5, hv5, _⟩ := ownsRow_shape ho5
  rw [hv5] at ho5 ⊢
  clear hv5 ho' hG' hg5 hA
  have ho6 : w5.ownsRow B 2 1 (.slice a5 0 c5) 0 [] := by simpa using ho5
  simp only [List.length_nil]
  clear ho5
  go_wp2
  refine wp_loop_rounds 1 ?_
  rw [rounds_succ]
  go_wp2
  go_ret2
  exact ⟨_, rfl, ho6, hG5⟩

/-- The sorted amounts of a node of n devices with U taken. -/
def srt (n : Int) (U : List Int) : List Int := (U ++ List.replicate (n - U.length).toNat 0).mergeSort fun x y => decide (x ≤ y)
/-- Its levels. -/
def lev (n : Int) (U : List Int) : List (Int × Int) := if U.length = 0 ∧ 0 < n then [(0, n)] else Lev.runs (srt n U)
/-- What is handed back of the buffer. -/
def buf (n : Int) (U X : List Int) : List Int := if U.length = 0 ∧ 0 < n then X else srt n U

theorem levels_any (bd : Nat) (n : Int) (ua : Option Addr) (ulen ucap : Nat) (U : List Int) (ta : Option Addr) (tn tcap : Nat) (X : List Int) (B : Nat) (r : Option Nat) (w : World) (hn : n ≤ 65536) (hn' : -65536 ≤ n) (hul : ulen ≤ 131072)
    (hd0 : w.cell? ⟨bd, 0, none⟩ = some (.int .i64 n)) (hd1 : w.cell? ⟨bd, 1, none⟩ = some (.slice ua ulen ucap)) (hU : Src w ua ulen ucap U) (hX : X.length = tn)
    (ht : w.ownsRow B 2 1 (.slice ta tn tcap) tn (X.map (Value.int .i64))) (hBw : B ≤ w.heap.size) (hr : (Value.slice ta 0 tcap).ownBlock = r) (hne1 : some bd ≠ r) :
    Calls Try.prog 16 #[.pointer (some ⟨bd, 0, none⟩), .slice none 0 0, .slice ta tn tcap] w fun e w' => ∃ a6 c6 tv', e = .returned (.tuple #[.slice a6 (lev n U).length c6, tv']) ∧
      w'.ownsRow w.heap.size 44 2 (.slice a6 (lev n U).length c6) (lev n U).length (flat (lev n U)) ∧ w'.ownsRow B 2 1 tv' (buf n U X).length ((buf n U X).map (Value.int .i64)) ∧ w.grownBy w' r := by
  have hUl := hU.1
  by_cases h0 : ulen = 0
  · subst h0
    obtain rfl : U = [] := List.eq_nil_of_length_eq_zero hUl
    by_cases hp : 0 < n
    · have e1 : lev n [] = [(0, n)] := if_pos ⟨rfl, hp⟩
      have e2 : buf n [] X = X := if_pos ⟨rfl, hp⟩
      rw [e1, e2]
      refine (levels_one bd n ua ucap (.slice ta tn tcap) w hp hd0 hd1).mono ?_
      rintro e w' ⟨v', rfl, ho, hg⟩
      obtain ⟨a, c, rfl, _⟩ := ownsRow_shape ho
      exact ⟨a, c, _, rfl, ho, by rw [hX]; exact ht.kept hg (by cases (Value.slice ta tn tcap).ownBlock <;> simp), gby_widen hg⟩
    · have e0 : srt n [] = [] := by
        have : (n - (([] : List Int).length : Int)).toNat = 0 := by simp; omega
        unfold srt; rw [this]; simp
      have e1 : lev n [] = [] := by rw [lev, if_neg (fun h => hp h.2), e0]; rfl
      have e2 : buf n [] X = [] := by rw [buf, if_neg (fun h => hp h.2), e0]
      rw [e1, e2]
      refine (levels_none bd n ua ucap ta tn tcap _ B r w (by omega) hn' hd0 hd1 hU ht hBw hr hne1).mono ?_
      rintro e w' ⟨tv', rfl, ho, hg⟩
      exact ⟨none, 0, tv', rfl, World.ownsRow_nil _ _ _ _, ho, hg⟩
  · have e1 : lev n U = Lev.runs (srt n U) := if_neg (fun h => h0 (by omega))
    have e2 : buf n U X = srt n U := if_neg (fun h => h0 (by omega))
    rw [e1, e2]
    refine (levels_main bd n ua ulen ucap U ta tn tcap _ B r w hn hn' hul (by omega) hd0 hd1 hU ht hBw hr hne1 (srt n U) (by rw [srt, hUl])).mono ?_
    rintro e w' ⟨v', tv', rfl, h1, h2, h3⟩
    obtain ⟨a, c, rfl, _⟩ := ownsRow_shape h1
    exact ⟨a, c, tv', rfl, h1, h2, h3⟩
end Go.Proofs.Qxb6602950a
